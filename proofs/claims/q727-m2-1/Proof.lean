import JvmDerived
import JvmDerived.Pilot.@@N@@Statement
import JvmDerived.Pilot.@@N@@Code
set_option linter.unusedVariables false
set_option linter.unusedSimpArgs false
namespace Jvm.Pilot.@@N@@
open Jvm Jvm.ClassFile Sem Op Lib Jvm.Free Jvm.Stand Jvm.LawKit Jvm.RoadKit Bundle Jvm.Pilot.@@N@@.Jvm.D
section Own
variable {p : Program} {l : Launch} {e : Env} {R : Room} {s : State} {m : MethodId} {args : Array Value} {below : List Frame} {meth : Method} {c : Code} {T : State} {locs : List Loc} {cells slots : Nat}
/-- from U the run comes to an end of which Q holds -/
def OwnEnds (tb : Tables) (e : Env) (below : List Frame) (Q : Outcome → State → Prop) (U : State) : Prop :=
  ∃ s₂ o, Steps tb e below U s₂ ∧ s₂.status = .running ∧ Ended s₂ below o ∧ Q o s₂
abbrev OwnQ (s : State) (K N : Nat) (Q : Option Value → Heap → List Loc → Prop) : Outcome → State → Prop :=
  fun o U => ∃ v L, o = .returned v ∧ Q v U.heap L ∧ FrameEnd s o U L K N
theorem own_via {tb : Tables} {Q : Outcome → State → Prop} {U U' : State} (h : ∀ t, Steps tb e below U' t → Steps tb e below U t) (k : OwnEnds tb e below Q U') : OwnEnds tb e below Q U := by
  obtain ⟨s₂, o, h1, h2⟩ := k
  exact ⟨s₂, o, h _ h1, h2⟩
theorem own_of {tb : Tables} {Q : Outcome → State → Prop} {U U' : State} (h : Steps tb e below U U') (k : OwnEnds tb e below Q U') : OwnEnds tb e below Q U :=
  own_via (fun _ q => h.trans q) k
theorem own_wide {K N : Nat} (X : Stand p l e R s m args below meth c T locs cells slots) (h1 : cells ≤ K) (h2 : slots ≤ N) : Stand p l e R s m args below meth c T locs K N :=
  { X with same := X.same.mono h1 h2 }
theorem own_ret (X : Stand p l e R s m args below meth c T locs cells slots) {Q : Option Value → Heap → List Loc → Prop} {K N : Nat} {v : Option Value} (hv : meth.sig.returnType = none → v = none) (hlk : meth.locks = false) {f : JFrame}
    (st : ∀ fs, (∀ (f : JFrame) (acts : List Action), f.method = m → f.locked = none → f.entered = [] → (doReturn e (T.setTop f) acts v).1 = T.setFrames fs) → Steps p.tables e below (T.setTop f) (T.setFrames fs))
    (hQ : Q v T.heap locs) (hK : cells ≤ K) (hN : slots ≤ N) : OwnEnds p.tables e below (OwnQ s K N Q) (T.setTop f) := by
  obtain ⟨fs, hr, hrun, hended, hW, hsame⟩ := X.leave (v := v) hv hlk
  exact ⟨_, _, st fs hr, hrun, hended, _, _, rfl, hQ, ⟨_, rfl⟩, hW, hsame.mono hK hN⟩
theorem own_retI (X : Stand p l e R s m args below meth c T locs cells slots) (hx : p.tables.exec = Jvm.exec) {Q : Option Value → Heap → List Loc → Prop} {K N pc : Nat} {Ls : Array Slot} {z : Int32} {rest : List Value} (hret : meth.sig.returnType = some .int) (hlk : meth.locks = false) (hd : decode c.code pc = .ok (.ireturn, 1))
    (hQ : Q (some (.int z)) T.heap locs) (hK : cells ≤ K) (hN : slots ≤ N) : OwnEnds p.tables e below (OwnQ s K N Q) (T.setTop (mkF m pc Ls (.int z :: rest))) :=
  own_ret X (fun h => by rw [hret] at h; cases h) hlk (fun fs hl => retOut X hx hret rfl (Or.inl ⟨rfl, Or.inl rfl, z, rfl⟩) hd hl) hQ hK hN
theorem own_retN (X : Stand p l e R s m args below meth c T locs cells slots) (hx : p.tables.exec = Jvm.exec) {Q : Option Value → Heap → List Loc → Prop} {K N pc : Nat} {Ls : Array Slot} {z : Int32} {t : FieldType} {rest : List Value} (hret : meth.sig.returnType = some t) (ht : t = .boolean ∨ t = .byte ∨ t = .char ∨ t = .short) (hlk : meth.locks = false) (hd : decode c.code pc = .ok (.ireturn, 1))
    (hQ : Q (some (.int (nar t z))) T.heap locs) (hK : cells ≤ K) (hN : slots ≤ N) : OwnEnds p.tables e below (OwnQ s K N Q) (T.setTop (mkF m pc Ls (.int z :: rest))) :=
  own_ret X (fun h => by rw [hret] at h; cases h) hlk (fun fs hl => retN X hx hret ht hd hl) hQ hK hN
theorem own_retJ (X : Stand p l e R s m args below meth c T locs cells slots) (hx : p.tables.exec = Jvm.exec) {Q : Option Value → Heap → List Loc → Prop} {K N pc : Nat} {Ls : Array Slot} {z : Int64} {rest : List Value} (hret : meth.sig.returnType = some .long) (hlk : meth.locks = false) (hd : decode c.code pc = .ok (.lreturn, 1))
    (hQ : Q (some (.long z)) T.heap locs) (hK : cells ≤ K) (hN : slots ≤ N) : OwnEnds p.tables e below (OwnQ s K N Q) (T.setTop (mkF m pc Ls (.long z :: rest))) :=
  own_ret X (fun h => by rw [hret] at h; cases h) hlk (fun fs hl => retOut X hx hret rfl (Or.inr (Or.inl ⟨rfl, rfl, z, rfl⟩)) hd hl) hQ hK hN
theorem own_retA (X : Stand p l e R s m args below meth c T locs cells slots) (hx : p.tables.exec = Jvm.exec) {Q : Option Value → Heap → List Loc → Prop} {K N pc : Nat} {Ls : Array Slot} {w : Value} {t : FieldType} {rest : List Value} (hret : meth.sig.returnType = some t) (ht : t.isReference = true) (hw : w.isRef = true) (hlk : meth.locks = false) (hd : decode c.code pc = .ok (.areturn, 1))
    (hQ : Q (some w) T.heap locs) (hK : cells ≤ K) (hN : slots ≤ N) : OwnEnds p.tables e below (OwnQ s K N Q) (T.setTop (mkF m pc Ls (w :: rest))) :=
  own_ret X (fun h => by rw [hret] at h; cases h) hlk (fun fs hl => retOut X hx hret (by cases t <;> first | (cases ht; done) | (cases w <;> first | rfl | (cases hw; done))) (Or.inr (Or.inr (Or.inr (Or.inr ⟨rfl, ht, hw⟩)))) hd hl) hQ hK hN
theorem own_retV (X : Stand p l e R s m args below meth c T locs cells slots) (hx : p.tables.exec = Jvm.exec) {Q : Option Value → Heap → List Loc → Prop} {K N pc : Nat} {Ls : Array Slot} (hret : meth.sig.returnType = none) (hlk : meth.locks = false) (hd : decode c.code pc = .ok (.return_, 1))
    (hQ : Q none T.heap locs) (hK : cells ≤ K) (hN : slots ≤ N) : OwnEnds p.tables e below (OwnQ s K N Q) (T.setTop (mkF m pc Ls [])) :=
  own_ret X (fun _ => rfl) hlk (fun fs hl => X.returnOut hx hret hd hl) hQ hK hN
theorem own_lc_lt_t {x y : Int64} (h : x < y) : ifCond.holds .lt (lcmpW x y) = true ∧ ifCond.holds .ge (lcmpW x y) = false := by
  have q : lcmpW x y < 0 := by rw [lcW, lc_lt]; exact h
  exact ⟨(if0 _ _).trans (tlt q).1, (if0 _ _).trans (tlt q).2.1⟩
theorem own_lc_lt_f {x y : Int64} (h : ¬ (x < y)) : ifCond.holds .lt (lcmpW x y) = false ∧ ifCond.holds .ge (lcmpW x y) = true := by
  have q : ¬ lcmpW x y < 0 := by rw [lcW, lc_lt]; exact h
  exact ⟨(if0 _ _).trans (flt q).1, (if0 _ _).trans (flt q).2.1⟩
theorem own_lc_gt_t {x y : Int64} (h : y < x) : ifCond.holds .gt (lcmpW x y) = true ∧ ifCond.holds .le (lcmpW x y) = false := by
  have q : 0 < lcmpW x y := by rw [lcW, lc_gt]; exact h
  exact ⟨(if0 _ _).trans (tlt q).2.2.1, (if0 _ _).trans (tlt q).2.2.2⟩
theorem own_lc_gt_f {x y : Int64} (h : ¬ (y < x)) : ifCond.holds .gt (lcmpW x y) = false ∧ ifCond.holds .le (lcmpW x y) = true := by
  have q : ¬ 0 < lcmpW x y := by rw [lcW, lc_gt]; exact h
  exact ⟨(if0 _ _).trans (flt q).2.2.1, (if0 _ _).trans (flt q).2.2.2⟩
theorem own_lc_eq_t {x y : Int64} (h : x = y) : ifCond.holds .eq (lcmpW x y) = true ∧ ifCond.holds .ne (lcmpW x y) = false := by
  have q : lcmpW x y = 0 := by rw [lcW, lc_eq]; exact h
  exact ⟨(if0 _ _).trans (teq q).1, (if0 _ _).trans (teq q).2⟩
theorem own_lc_eq_f {x y : Int64} (h : ¬ (x = y)) : ifCond.holds .eq (lcmpW x y) = false ∧ ifCond.holds .ne (lcmpW x y) = true := by
  have q : ¬ lcmpW x y = 0 := by rw [lcW, lc_eq]; exact h
  exact ⟨(if0 _ _).trans (feq q).1, (if0 _ _).trans (feq q).2⟩
theorem own_lrem {g : JFrame} {target : State} (X : Stand p l e R s m args below meth c T locs cells slots) (hx : p.tables.exec = Jvm.exec) (hg : g.method = m) {x y : Int64} {rest : List Value} (hd : decode c.code g.pc = .ok (.lrem, 1)) (hs : g.stack = .long y :: .long x :: rest) (hy : y ≠ 0)
    (hr : Steps p.tables e below (T.setTop { g with pc := g.pc + 1, stack := .long (x % y) :: rest }) target) : Steps p.tables e below (T.setTop g) target := by
  have q : x - x / y * y = x % y := lrem_mod x y
  exact XS.lrem X.here hx hg hd hs hy (by rw [q]; exact hr)
theorem own_cat {w : Value} (h : w.isRef = true) : w.category = 1 := by rcases ref_cases h with rfl | ⟨a, rfl⟩ <;> rfl
theorem own_narR {w : Value} {t : FieldType} (ht : t.isReference = true) (h : w.isRef = true) : narrow t w = w := by
  cases t <;> first | (cases ht; done) | (rcases ref_cases h with rfl | ⟨a, rfl⟩ <;> rfl)
theorem own_fitR {w : Value} {t : FieldType} (ht : t.isReference = true) (h : w.isRef = true) : fits t w = true := by
  cases t <;> first | (cases ht; done) | (rcases ref_cases h with rfl | ⟨a, rfl⟩ <;> rfl)
theorem own_narb {c : Prop} [Decidable c] {r : Int32} (h : r = if c then 0 else 1) : nar .boolean r = r := by
  by_cases q : c
  · rw [if_pos q] at h; rw [h]; rfl
  · rw [if_neg q] at h; rw [h]; rfl
/-! arrays as lists of values -/
def AL (Z : State) (h : Heap) (a : Addr) (ty : FieldType) (xs : List Value) : Prop := ∃ c : Cell, Arr Z h a c ty ∧ c.slots.toList = xs ∧ xs.length < 2147483648
variable {Z : State} {h h' : Heap} {a b : Addr} {ty : FieldType} {xs : List Value} {sl : Nat} {v : Value} {ws : List Addr} {C n d : String}
theorem AL.lt (F : AL Z h a ty xs) : a < h.size := by obtain ⟨c, A, -⟩ := F; exact A.lt
theorem AL.ext (F : AL Z h a ty xs) (E : Ext h h') : AL Z h' a ty xs := by obtain ⟨c, A, r⟩ := F; exact ⟨c, A.ext E, r⟩
theorem AL.other (F : AL Z h a ty xs) (W : Wr h h' b sl v) (q : a ≠ b) : AL Z h' a ty xs := by obtain ⟨c, A, r⟩ := F; exact ⟨c, A.other W q, r⟩
theorem AL.keep (F : AL Z h a ty xs) (K : Keep h h' ws) (q : a ∉ ws) : AL Z h' a ty xs := by obtain ⟨c, A, r⟩ := F; exact ⟨c, ⟨K.2.1 a c A.1 q, A.2⟩, r⟩
theorem AL.new {k : ClassId} {z : Int32} (A : Arr Z h a (newA k ty z) ty) (q : ¬ z < 0) {i : Nat} (hi : z.toNatClampNeg = i) : AL Z h a ty (List.replicate i (defaultValue ty)) := by
  refine ⟨_, A, ?_, ?_⟩
  · simp [newA, hi]
  · rw [List.length_replicate, ← hi]; exact (back32 q).2
theorem AL.ne {C : String} (F : AL Z h a ty xs) (G : Exa Z h b C) {a0 : Array Value} {k : Nat} (wi : (Cond.instantiable C k).before a0 Z = true) : b ≠ a := by
  obtain ⟨c, A, -⟩ := F; exact ne_arr G wi A
theorem own_idx {cl : Cell} (hc : cl.slots.toList = xs) {j : Int32} {i : Nat} (hj : j.toInt = i) (hi : i < xs.length) : ¬ (j < 0 ∨ cl.slots.size ≤ j.toNatClampNeg) ∧ j.toNatClampNeg = i := by
  have h1 : j.toNatClampNeg = i := by simp only [Int32.toNatClampNeg, hj]; rfl
  have h2 : cl.slots.size = xs.length := by rw [← hc]; simp
  refine ⟨fun q => ?_, h1⟩
  rcases q with q | q
  · rw [Int32.lt_iff_toInt_lt, hj] at q; have e0 : (0 : Int32).toInt = 0 := rfl; omega
  · omega
theorem own_at {cl : Cell} (hc : cl.slots.toList = xs) {i : Nat} : cl.slots[i]? = xs[i]? := by rw [← hc]; simp
theorem AL.set {cl : Cell} (A : Arr Z h a cl ty) (hc : cl.slots.toList = xs) (hl : xs.length < 2147483648) {i : Nat} (W : Wr h h' a i v) : AL Z h' a ty (xs.set i v) := by
  refine ⟨_, A.same W, ?_, by simpa using hl⟩
  simp [Cell.setSlot, hc]
theorem own_stI (X : Stand p l e R s m args below meth c T locs cells slots) (hx : p.tables.exec = Jvm.exec) (hZ : Z.Warmed39 s.vm) (eT : T.heap = h) (A : AL Z h a .int xs) {j x : Int32} (i : Nat) (hj : j.toInt = i) (hi : i < xs.length) {g : JFrame} (hg : g.method = m) {rest : List Value} (hs : g.stack = .int x :: .int j :: .ref a :: rest) (hd : decode c.code g.pc = .ok (.iastore, 1)) :
    ∃ T' h', Stand p l e R s m args below meth c T' (locs ++ [⟨a, i⟩]) cells slots ∧ T'.heap = h' ∧ Wr h h' a i (.int x) ∧ AL Z h' a .int (xs.set i (.int x)) ∧ ∀ target, Steps p.tables e below (T'.setTop { g with pc := g.pc + 1, stack := rest }) target → Steps p.tables e below (T.setTop g) target := by
  obtain ⟨cl, A1, A2, A3⟩ := A
  obtain ⟨q1, q2⟩ := own_idx A2 hj hi
  obtain ⟨T', h', X', e', W, st⟩ := stI X hx hZ eT A1 q1 hg hs hd
  rw [q2] at X' W
  exact ⟨T', h', X', e', W, AL.set A1 A2 A3 W, st⟩
theorem own_stJ (X : Stand p l e R s m args below meth c T locs cells slots) (hx : p.tables.exec = Jvm.exec) (hZ : Z.Warmed39 s.vm) (eT : T.heap = h) (A : AL Z h a .long xs) {j : Int32} {x : Int64} (i : Nat) (hj : j.toInt = i) (hi : i < xs.length) {g : JFrame} (hg : g.method = m) {rest : List Value} (hs : g.stack = .long x :: .int j :: .ref a :: rest) (hd : decode c.code g.pc = .ok (.lastore, 1)) :
    ∃ T' h', Stand p l e R s m args below meth c T' (locs ++ [⟨a, i⟩]) cells slots ∧ T'.heap = h' ∧ Wr h h' a i (.long x) ∧ AL Z h' a .long (xs.set i (.long x)) ∧ ∀ target, Steps p.tables e below (T'.setTop { g with pc := g.pc + 1, stack := rest }) target → Steps p.tables e below (T.setTop g) target := by
  obtain ⟨cl, A1, A2, A3⟩ := A
  obtain ⟨q1, q2⟩ := own_idx A2 hj hi
  obtain ⟨T', h', X', e', W, st⟩ := stJ X hx hZ eT A1 q1 hg hs hd
  rw [q2] at X' W
  exact ⟨T', h', X', e', W, AL.set A1 A2 A3 W, st⟩
theorem own_stB (X : Stand p l e R s m args below meth c T locs cells slots) (hx : p.tables.exec = Jvm.exec) (hZ : Z.Warmed39 s.vm) (eT : T.heap = h) (A : AL Z h a .byte xs) {j x : Int32} (i : Nat) (hj : j.toInt = i) (hi : i < xs.length) {g : JFrame} (hg : g.method = m) {rest : List Value} (hs : g.stack = .int x :: .int j :: .ref a :: rest) (hd : decode c.code g.pc = .ok (.bastore, 1)) :
    ∃ T' h', Stand p l e R s m args below meth c T' (locs ++ [⟨a, i⟩]) cells slots ∧ T'.heap = h' ∧ Wr h h' a i (.int (nar .byte x)) ∧ AL Z h' a .byte (xs.set i (.int (nar .byte x))) ∧ ∀ target, Steps p.tables e below (T'.setTop { g with pc := g.pc + 1, stack := rest }) target → Steps p.tables e below (T.setTop g) target := by
  obtain ⟨cl, A1, A2, A3⟩ := A
  obtain ⟨q1, q2⟩ := own_idx A2 hj hi
  obtain ⟨T', h', X', e', W, st⟩ := stB X hx hZ eT A1 q1 hg hs hd
  rw [q2] at X' W
  exact ⟨T', h', X', e', W, AL.set A1 A2 A3 W, st⟩
theorem own_stZ (X : Stand p l e R s m args below meth c T locs cells slots) (hx : p.tables.exec = Jvm.exec) (hZ : Z.Warmed39 s.vm) (eT : T.heap = h) (A : AL Z h a .boolean xs) {j x : Int32} (i : Nat) (hj : j.toInt = i) (hi : i < xs.length) {g : JFrame} (hg : g.method = m) {rest : List Value} (hs : g.stack = .int x :: .int j :: .ref a :: rest) (hd : decode c.code g.pc = .ok (.bastore, 1)) :
    ∃ T' h', Stand p l e R s m args below meth c T' (locs ++ [⟨a, i⟩]) cells slots ∧ T'.heap = h' ∧ Wr h h' a i (.int (nar .boolean x)) ∧ AL Z h' a .boolean (xs.set i (.int (nar .boolean x))) ∧ ∀ target, Steps p.tables e below (T'.setTop { g with pc := g.pc + 1, stack := rest }) target → Steps p.tables e below (T.setTop g) target := by
  obtain ⟨cl, A1, A2, A3⟩ := A
  obtain ⟨q1, q2⟩ := own_idx A2 hj hi
  obtain ⟨T', h', X', e', W, st⟩ := stZ X hx hZ eT A1 q1 hg hs hd
  rw [q2] at X' W
  exact ⟨T', h', X', e', W, AL.set A1 A2 A3 W, st⟩
theorem own_stC (X : Stand p l e R s m args below meth c T locs cells slots) (hx : p.tables.exec = Jvm.exec) (hZ : Z.Warmed39 s.vm) (eT : T.heap = h) (A : AL Z h a .char xs) {j x : Int32} (i : Nat) (hj : j.toInt = i) (hi : i < xs.length) {g : JFrame} (hg : g.method = m) {rest : List Value} (hs : g.stack = .int x :: .int j :: .ref a :: rest) (hd : decode c.code g.pc = .ok (.castore, 1)) :
    ∃ T' h', Stand p l e R s m args below meth c T' (locs ++ [⟨a, i⟩]) cells slots ∧ T'.heap = h' ∧ Wr h h' a i (.int (nar .char x)) ∧ AL Z h' a .char (xs.set i (.int (nar .char x))) ∧ ∀ target, Steps p.tables e below (T'.setTop { g with pc := g.pc + 1, stack := rest }) target → Steps p.tables e below (T.setTop g) target := by
  obtain ⟨cl, A1, A2, A3⟩ := A
  obtain ⟨q1, q2⟩ := own_idx A2 hj hi
  obtain ⟨T', h', X', e', W, st⟩ := stC X hx hZ eT A1 q1 hg hs hd
  rw [q2] at X' W
  exact ⟨T', h', X', e', W, AL.set A1 A2 A3 W, st⟩
theorem own_lt_len {i : Nat} (hv : xs[i]? = some v) : i < xs.length := (List.getElem?_eq_some_iff.mp hv).1
theorem own_ldI (X : Stand p l e R s m args below meth c T locs cells slots) (hx : p.tables.exec = Jvm.exec) (hZ : Z.Warmed39 s.vm) (eT : T.heap = h) (A : AL Z h a .int xs) {j : Int32} (i : Nat) (hj : j.toInt = i) (hv : xs[i]? = some v) {g : JFrame} (hg : g.method = m) {rest : List Value} (hs : g.stack = .int j :: .ref a :: rest) (hd : decode c.code g.pc = .ok (.iaload, 1)) :
    ∀ target, Steps p.tables e below (T.setTop { g with pc := g.pc + 1, stack := v :: rest }) target → Steps p.tables e below (T.setTop g) target := by
  obtain ⟨cl, A1, A2, A3⟩ := A
  obtain ⟨q1, q2⟩ := own_idx A2 hj (own_lt_len hv)
  exact X.iaload hx (by rw [eT]; exact A1.1) (State.isArrayOf_alike hZ.alike A1.2.1) A1.2.2 q1 (by rw [q2, own_at A2]; exact hv) hg hs hd
theorem own_ldJ (X : Stand p l e R s m args below meth c T locs cells slots) (hx : p.tables.exec = Jvm.exec) (hZ : Z.Warmed39 s.vm) (eT : T.heap = h) (A : AL Z h a .long xs) {j : Int32} (i : Nat) (hj : j.toInt = i) (hv : xs[i]? = some v) {g : JFrame} (hg : g.method = m) {rest : List Value} (hs : g.stack = .int j :: .ref a :: rest) (hd : decode c.code g.pc = .ok (.laload, 1)) :
    ∀ target, Steps p.tables e below (T.setTop { g with pc := g.pc + 1, stack := v :: rest }) target → Steps p.tables e below (T.setTop g) target := by
  obtain ⟨cl, A1, A2, A3⟩ := A
  obtain ⟨q1, q2⟩ := own_idx A2 hj (own_lt_len hv)
  exact X.laload hx (by rw [eT]; exact A1.1) (State.isArrayOf_alike hZ.alike A1.2.1) A1.2.2 q1 (by rw [q2, own_at A2]; exact hv) hg hs hd
theorem own_ldB (X : Stand p l e R s m args below meth c T locs cells slots) (hx : p.tables.exec = Jvm.exec) (hZ : Z.Warmed39 s.vm) (eT : T.heap = h) (A : AL Z h a .byte xs) {j : Int32} (i : Nat) (hj : j.toInt = i) (hv : xs[i]? = some v) {g : JFrame} (hg : g.method = m) {rest : List Value} (hs : g.stack = .int j :: .ref a :: rest) (hd : decode c.code g.pc = .ok (.baload, 1)) :
    ∀ target, Steps p.tables e below (T.setTop { g with pc := g.pc + 1, stack := v :: rest }) target → Steps p.tables e below (T.setTop g) target := by
  obtain ⟨cl, A1, A2, A3⟩ := A
  obtain ⟨q1, q2⟩ := own_idx A2 hj (own_lt_len hv)
  exact X.baloadBytes hx (by rw [eT]; exact A1.1) (State.isArrayOf_alike hZ.alike A1.2.1) A1.2.2 q1 (by rw [q2, own_at A2]; exact hv) hg hs hd
theorem own_ldZ (X : Stand p l e R s m args below meth c T locs cells slots) (hx : p.tables.exec = Jvm.exec) (hZ : Z.Warmed39 s.vm) (eT : T.heap = h) (A : AL Z h a .boolean xs) {j : Int32} (i : Nat) (hj : j.toInt = i) (hv : xs[i]? = some v) {g : JFrame} (hg : g.method = m) {rest : List Value} (hs : g.stack = .int j :: .ref a :: rest) (hd : decode c.code g.pc = .ok (.baload, 1)) :
    ∀ target, Steps p.tables e below (T.setTop { g with pc := g.pc + 1, stack := v :: rest }) target → Steps p.tables e below (T.setTop g) target := by
  obtain ⟨cl, A1, A2, A3⟩ := A
  obtain ⟨q1, q2⟩ := own_idx A2 hj (own_lt_len hv)
  exact X.baloadBooleans hx (by rw [eT]; exact A1.1) (State.isArrayOf_alike hZ.alike A1.2.1) A1.2.2 q1 (by rw [q2, own_at A2]; exact hv) hg hs hd
theorem own_ldC (X : Stand p l e R s m args below meth c T locs cells slots) (hx : p.tables.exec = Jvm.exec) (hZ : Z.Warmed39 s.vm) (eT : T.heap = h) (A : AL Z h a .char xs) {j : Int32} (i : Nat) (hj : j.toInt = i) (hv : xs[i]? = some v) {g : JFrame} (hg : g.method = m) {rest : List Value} (hs : g.stack = .int j :: .ref a :: rest) (hd : decode c.code g.pc = .ok (.caload, 1)) :
    ∀ target, Steps p.tables e below (T.setTop { g with pc := g.pc + 1, stack := v :: rest }) target → Steps p.tables e below (T.setTop g) target := by
  obtain ⟨cl, A1, A2, A3⟩ := A
  obtain ⟨q1, q2⟩ := own_idx A2 hj (own_lt_len hv)
  exact X.caload hx (by rw [eT]; exact A1.1) (State.isArrayOf_alike hZ.alike A1.2.1) A1.2.2 q1 (by rw [q2, own_at A2]; exact hv) hg hs hd
theorem own_ldA (X : Stand p l e R s m args below meth c T locs cells slots) (hx : p.tables.exec = Jvm.exec) (hZ : Z.Warmed39 s.vm) (eT : T.heap = h) (A : AL Z h a ty xs) (hty : ty.isReference = true) {j : Int32} (i : Nat) (hj : j.toInt = i) (hv : xs[i]? = some v) {g : JFrame} (hg : g.method = m) {rest : List Value} (hs : g.stack = .int j :: .ref a :: rest) (hd : decode c.code g.pc = .ok (.aaload, 1)) :
    ∀ target, Steps p.tables e below (T.setTop { g with pc := g.pc + 1, stack := v :: rest }) target → Steps p.tables e below (T.setTop g) target := by
  obtain ⟨cl, A1, A2, A3⟩ := A
  obtain ⟨q1, q2⟩ := own_idx A2 hj (own_lt_len hv)
  exact X.aaload hx (by rw [eT]; exact A1.1) (State.isArrayOf_alike hZ.alike A1.2.1) hty A1.2.2 q1 (by rw [q2, own_at A2]; exact hv) hg hs hd
theorem own_len (X : Stand p l e R s m args below meth c T locs cells slots) (hx : p.tables.exec = Jvm.exec) (hZ : Z.Warmed39 s.vm) (eT : T.heap = h) (A : AL Z h a ty xs) {z : Int32} (hz : z.toInt = xs.length) {g : JFrame} (hg : g.method = m) {rest : List Value} (hs : g.stack = .ref a :: rest) (hd : decode c.code g.pc = .ok (.arraylength, 1)) :
    ∀ target, Steps p.tables e below (T.setTop { g with pc := g.pc + 1, stack := .int z :: rest }) target → Steps p.tables e below (T.setTop g) target := by
  obtain ⟨cl, A1, A2, A3⟩ := A
  have h2 : cl.slots.size = xs.length := by rw [← A2]; simp
  have e1 : cl.slots.size.toInt32 = z := Int32.toInt_inj.mp (by rw [len_toInt (by omega), hz, h2])
  intro target k
  exact X.arraylength hx (by rw [eT]; exact A1.1) (State.isArrayOf_alike hZ.alike A1.2.1) hg hs hd target (by rw [e1]; exact k)
end Own

theorem own_nar1 : nar .boolean (1 : Int32) = 1 := rfl
theorem own_nar0 : nar .boolean (0 : Int32) = 0 := rfl
theorem own_cast {Z : State} {h : Heap} {a : Addr} {ty : FieldType} {xs ys : List Value} (q : xs = ys) (A : AL Z h a ty xs) : AL Z h a ty ys := q ▸ A
def own_w (q : Int32) : Int32 := ((128 : Int32).toUInt32 >>> ((q % 8) &&& 31).toUInt32).toInt32
def own_st (acc q : Int32) : Int32 := nar .byte (((acc ||| ((own_w q).toInt8.toInt32)).toInt8.toInt32))
def own_tb (x : Int32) : Int32 := x.toInt8.toInt32
def own_g (ps : List Int32) (j : Nat) : Int32 := ps.foldl (fun acc q => if (q / 8).toNatClampNeg = j then own_st acc q else acc) 0
def own_bl (N : Nat) (ps : List Int32) : List Value := (List.range N).map fun j => .int (own_g ps j)
def own_bi (q j : Int32) : Int32 := if q / 8 = j then own_w q else 0
theorem own_ste (acc q : Int32) : own_st acc q = own_tb (acc ||| own_w q) := by
  show ((acc ||| ((own_w q).toInt8.toInt32)).toInt8.toInt32).toInt8.toInt32 = (acc ||| own_w q).toInt8.toInt32
  simp
theorem own_tbo (x y : Int32) : own_tb (own_tb x ||| y) = own_tb (x ||| y) := by unfold own_tb; simp
theorem own_tb0 : own_tb 0 = 0 := rfl
theorem own_bll (N : Nat) (ps : List Int32) : (own_bl N ps).length = N := by simp [own_bl]
theorem own_bat (ps : List Int32) {N k : Nat} (h : k < N) : (own_bl N ps)[k]? = some (.int (own_g ps k)) := by simp [own_bl, h]
theorem own_bl0 (N : Nat) : List.replicate N (Value.int (0 : Int32)) = own_bl N [] := by
  unfold own_bl own_g
  simp [List.map_const']
theorem own_blset (N : Nat) (ps : List Int32) (q : Int32) (i : Nat) (hi : (q / 8).toNatClampNeg = i) : (own_bl N ps).set i (.int (own_st (own_g ps i) q)) = own_bl N (ps ++ [q]) := by
  apply List.ext_getElem?
  intro j
  rw [List.getElem?_set]
  by_cases hj : j < N
  · rw [own_bat (ps ++ [q]) hj]
    by_cases e : i = j
    · subst e
      rw [if_pos rfl, if_pos (by rw [own_bll]; exact hj)]
      simp [own_g, List.foldl_append, hi]
    · rw [if_neg e, own_bat ps hj]
      simp only [own_g, List.foldl_append, List.foldl_cons, List.foldl_nil]
      rw [if_neg (fun k => e (hi.symm.trans k))]
  · rw [List.getElem?_eq_none (by rw [own_bll]; omega), List.getElem?_eq_none (by rw [own_bll]; omega)]
    by_cases e : i = j
    · rw [if_pos e, if_neg (by rw [own_bll]; omega)]
    · rw [if_neg e]
theorem own_d8 {q : Int32} (h : 0 ≤ q.toInt ∧ q.toInt ≤ 65535) : (q / 8).toInt = (q / 8).toNatClampNeg ∧ (q / 8).toInt = q.toInt / 8 := by
  have d1 := (c_idiv q 8 8 rfl (by decide)).1 h.1
  simp only [Int32.toNatClampNeg]; omega
theorem own_lt {q t : Int32} (h : 0 ≤ q.toInt ∧ q.toInt ≤ 65535) (h' : 0 ≤ t.toInt ∧ t.toInt ≤ 65535) (hle : q.toInt ≤ t.toInt) (ps : List Int32) : (q / 8).toNatClampNeg < (own_bl ((t / 8).toNatClampNeg + 1) ps).length := by
  have a := own_d8 h; have b := own_d8 h'
  rw [own_bll]; omega
theorem own_tl {t : Int32} (h : 0 ≤ t.toInt ∧ t.toInt ≤ 65535) : (t / 8 + 1).toInt = ((t / 8).toNatClampNeg + 1 : Nat) ∧ (t / 8).toNatClampNeg + 1 ≤ 8192 := by
  have a := own_d8 h
  have b := c_iadd (t / 8) 1
  have e1 : (1 : Int32).toInt = 1 := rfl
  have b1 := (t / 8 + 1).toInt_lt; have b2 := (t / 8 + 1).le_toInt
  omega
theorem own_neg {t : Int32} (h : 0 ≤ t.toInt ∧ t.toInt ≤ 65535) : ¬ (t / 8 + 1) < 0 := by
  have a := own_tl h
  rw [Int32.lt_iff_toInt_lt, a.1]
  have e0 : (0 : Int32).toInt = 0 := rfl
  omega
theorem own_clamp {t : Int32} (h : 0 ≤ t.toInt ∧ t.toInt ≤ 65535) : (t / 8 + 1).toNatClampNeg = (t / 8).toNatClampNeg + 1 := by
  have a := own_tl h
  simp only [Int32.toNatClampNeg] at a ⊢; omega
theorem own_hit {q j : Int32} {jn : Nat} (h : 0 ≤ q.toInt ∧ q.toInt ≤ 65535) (hj : j.toInt = jn) : ((q / 8).toNatClampNeg = jn) = (q / 8 = j) := by
  have a := own_d8 h
  apply propext
  rw [← Int32.toInt_inj]; omega
theorem own_ck1 {q0 j : Int32} {jn : Nat} (h0 : 0 ≤ q0.toInt ∧ q0.toInt ≤ 65535) (hj : j.toInt = jn) : own_g [q0] jn = (own_bi q0 j).toInt8.toInt32 := by
  show _ = own_tb _
  simp only [own_g, List.foldl_cons, List.foldl_nil, own_hit h0 hj, own_bi]
  by_cases c0 : q0 / 8 = j <;> simp only [c0, if_true, if_false, own_ste, Int32.zero_or, own_tb0]
theorem own_ck2 {q0 q1 j : Int32} {jn : Nat} (h0 : 0 ≤ q0.toInt ∧ q0.toInt ≤ 65535) (h1 : 0 ≤ q1.toInt ∧ q1.toInt ≤ 65535) (hj : j.toInt = jn) : own_g [q0, q1] jn = (own_bi q0 j ||| own_bi q1 j).toInt8.toInt32 := by
  show _ = own_tb _
  simp only [own_g, List.foldl_cons, List.foldl_nil, own_hit h0 hj, own_hit h1 hj, own_bi]
  by_cases c0 : q0 / 8 = j <;> by_cases c1 : q1 / 8 = j <;> simp only [c0, c1, if_true, if_false, own_ste, own_tbo, Int32.zero_or, Int32.or_zero, own_tb0]
theorem own_ck3 {q0 q1 q2 j : Int32} {jn : Nat} (h0 : 0 ≤ q0.toInt ∧ q0.toInt ≤ 65535) (h1 : 0 ≤ q1.toInt ∧ q1.toInt ≤ 65535) (h2 : 0 ≤ q2.toInt ∧ q2.toInt ≤ 65535) (hj : j.toInt = jn) : own_g [q0, q1, q2] jn = (own_bi q0 j ||| own_bi q1 j ||| own_bi q2 j).toInt8.toInt32 := by
  show _ = own_tb _
  simp only [own_g, List.foldl_cons, List.foldl_nil, own_hit h0 hj, own_hit h1 hj, own_hit h2 hj, own_bi]
  by_cases c0 : q0 / 8 = j <;> by_cases c1 : q1 / 8 = j <;> by_cases c2 : q2 / 8 = j <;> simp only [c0, c1, c2, if_true, if_false, own_ste, own_tbo, Int32.zero_or, Int32.or_zero, own_tb0]
theorem own_or16 (a b : Int32) (ha : 0 ≤ a.toInt ∧ a.toInt ≤ 65535) (hb : 0 ≤ b.toInt ∧ b.toInt ≤ 65535) : 0 ≤ (a ||| b).toInt ∧ (a ||| b).toInt ≤ 65535 := by
  have q : (a ||| b).toBitVec.toNat = a.toBitVec.toNat ||| b.toBitVec.toNat := by show (a.toBitVec ||| b.toBitVec).toNat = _; rw [BitVec.toNat_or]
  have la := a.toBitVec.isLt; have lb := b.toBitVec.isLt
  change 0 ≤ a.toBitVec.toInt ∧ a.toBitVec.toInt ≤ 65535 at ha; change 0 ≤ b.toBitVec.toInt ∧ b.toBitVec.toInt ≤ 65535 at hb
  show 0 ≤ (a ||| b).toBitVec.toInt ∧ (a ||| b).toBitVec.toInt ≤ 65535
  rw [BitVec.toInt_eq_toNat_cond] at ha hb
  have a1 : a.toBitVec.toNat < 2 ^ 16 := by split at ha <;> omega
  have b1 : b.toBitVec.toNat < 2 ^ 16 := by split at hb <;> omega
  have o1 := Nat.or_lt_two_pow a1 b1
  simp only [BitVec.toInt_eq_toNat_cond, q]
  split <;> omega
theorem own_m16 (x : Int32) : 0 ≤ (x &&& 65535).toInt ∧ (x &&& 65535).toInt ≤ 65535 := by
  have := c_and x 65535 (by decide)
  have e : (65535 : Int32).toInt = 65535 := rfl
  omega
theorem own_yz {x b y nr : Int32} (hx : 0 ≤ x.toInt ∧ x.toInt ≤ 65535) (h : y = if nr = 0 then b &&& 65535 else (x &&& (-16)) ||| (b &&& 15)) : 0 ≤ y.toInt ∧ y.toInt ≤ 65535 := by
  by_cases c : nr = 0
  · rw [if_pos c] at h; rw [h]; exact own_m16 b
  · rw [if_neg c] at h; rw [h]
    have a := c_and' x (-16) hx.1
    have d := c_and b 15 (by decide)
    have e : (15 : Int32).toInt = 15 := rfl
    exact own_or16 _ _ (by omega) (by omega)
theorem own_pick {x y z y2 z2 k : Int32} (hx : 0 ≤ x.toInt ∧ x.toInt ≤ 65535) (hy : 0 ≤ y.toInt ∧ y.toInt ≤ 65535) (hz : 0 ≤ z.toInt ∧ z.toInt ≤ 65535) (h1 : y2 = if k = 0 then x else y) (h2 : z2 = if k = 0 then x else if k = 1 then x else z) : (0 ≤ y2.toInt ∧ y2.toInt ≤ 65535) ∧ (0 ≤ z2.toInt ∧ z2.toInt ≤ 65535) := by
  by_cases c : k = 0
  · rw [if_pos c] at h1 h2; rw [h1, h2]; exact ⟨hx, hx⟩
  · rw [if_neg c] at h1 h2
    by_cases d : k = 1
    · rw [if_pos d] at h2; rw [h1, h2]; exact ⟨hy, hx⟩
    · rw [if_neg d] at h2; rw [h1, h2]; exact ⟨hy, hz⟩
theorem own_swap {x y u v : Int32} (h1 : u = if y < x then y else x) (h2 : v = if y < x then x else y) : u.toInt ≤ v.toInt ∧ ((u = x ∧ v = y) ∨ (u = y ∧ v = x)) := by
  by_cases c : y < x
  · rw [if_pos c] at h1 h2; rw [h1, h2]; rw [Int32.lt_iff_toInt_lt] at c; exact ⟨by omega, Or.inr ⟨rfl, rfl⟩⟩
  · rw [if_neg c] at h1 h2; rw [h1, h2]; rw [Int32.lt_iff_toInt_lt] at c; exact ⟨by omega, Or.inl ⟨rfl, rfl⟩⟩
theorem own_sort {x y z a1 b1 b2 c2 a3 b3 : Int32} (hx : 0 ≤ x.toInt ∧ x.toInt ≤ 65535) (hy : 0 ≤ y.toInt ∧ y.toInt ≤ 65535) (hz : 0 ≤ z.toInt ∧ z.toInt ≤ 65535)
    (h1 : a1 = if y < x then y else x) (h2 : b1 = if y < x then x else y) (h3 : b2 = if z < b1 then z else b1) (h4 : c2 = if z < b1 then b1 else z) (h5 : a3 = if b2 < a1 then b2 else a1) (h6 : b3 = if b2 < a1 then a1 else b2) :
    (0 ≤ a3.toInt ∧ a3.toInt ≤ 65535) ∧ (0 ≤ b3.toInt ∧ b3.toInt ≤ 65535) ∧ (0 ≤ c2.toInt ∧ c2.toInt ≤ 65535) ∧ a3.toInt ≤ b3.toInt ∧ b3.toInt ≤ c2.toInt := by
  obtain ⟨s1, s2⟩ := own_swap h1 h2
  obtain ⟨s3, s4⟩ := own_swap h3 h4
  obtain ⟨s5, s6⟩ := own_swap h5 h6
  rcases s2 with ⟨rfl, rfl⟩ | ⟨rfl, rfl⟩ <;> rcases s4 with ⟨rfl, rfl⟩ | ⟨rfl, rfl⟩ <;> rcases s6 with ⟨rfl, rfl⟩ | ⟨rfl, rfl⟩ <;> omega
theorem own_nz {t : Int32} (h : 0 ≤ t.toInt ∧ t.toInt ≤ 65535) : t / 8 + 1 ≠ 0 := fun q => by
  have a := own_tl h
  rw [q] at a; have e0 : (0 : Int32).toInt = 0 := rfl; omega
theorem own_jj {x t jj : Int32} (h : 0 ≤ t.toInt ∧ t.toInt ≤ 65535) (hj : jj = (x &&& 2147483647) % (t / 8 + 1)) : jj.toInt = jj.toNatClampNeg ∧ jj.toNatClampNeg < (t / 8).toNatClampNeg + 1 := by
  have a := own_tl h
  have h1 := c_and x 2147483647 (by decide)
  have h2 := (c_irem (x &&& 2147483647) (t / 8 + 1) (t / 8 + 1).toInt rfl).1 h1.1
  have h3 := Int.emod_nonneg (x &&& 2147483647).toInt (show (t / 8 + 1).toInt ≠ 0 by omega)
  have h4 := Int.emod_lt_of_pos (x &&& 2147483647).toInt (show 0 < (t / 8 + 1).toInt by omega)
  rw [← hj] at h2
  simp only [Int32.toNatClampNeg] at a ⊢; omega
theorem own_jd {q t : Int32} (h : 0 ≤ q.toInt ∧ q.toInt ≤ 65535) (h' : 0 ≤ t.toInt ∧ t.toInt ≤ 65535) (hle : q.toInt ≤ t.toInt) : (q / 8).toInt = (q / 8).toNatClampNeg ∧ (q / 8).toNatClampNeg < (t / 8).toNatClampNeg + 1 := by
  have a := own_d8 h; have b := own_d8 h'
  exact ⟨a.1, by omega⟩
theorem d1_0 : decode prog_1_method_1_code 0 = .ok (.aload_n 0, 1) := by decide +kernel
theorem d1_1 : decode prog_1_method_1_code 1 = .ok (.invokespecial 1, 3) := by decide +kernel
theorem d1_4 : decode prog_1_method_1_code 4 = .ok (.aload_n 0, 1) := by decide +kernel
theorem d1_5 : decode prog_1_method_1_code 5 = .ok (.lload_n 1, 1) := by decide +kernel
theorem d1_6 : decode prog_1_method_1_code 6 = .ok (.putfield 7, 3) := by decide +kernel
theorem d1_9 : decode prog_1_method_1_code 9 = .ok (.aload_n 0, 1) := by decide +kernel
theorem d1_10 : decode prog_1_method_1_code 10 = .ok (.aload_n 3, 1) := by decide +kernel
theorem d1_11 : decode prog_1_method_1_code 11 = .ok (.putfield 13, 3) := by decide +kernel
theorem d1_14 : decode prog_1_method_1_code 14 = .ok (.return_, 1) := by decide +kernel
theorem pn_0 : plainName "com/example/crowd_cache/crowdcache/core/Bucket" = true := by first | (simp [plainName, overriddenIn]; done) | decide +kernel
theorem ef_1 (m : MethodId) (a0 : Addr) (q1 : Int64) (a2 : Addr) : entryFrame m #[(.ref a0), (.long q1), (.ref a2)] 4 = mkF m 0 #[.val (.ref a0), .val (.long q1), .second, .val (.ref a2)] [] := by first | (simp [entryFrame, mkF, argsToLocals, Value.category]; done) | rfl
def Q1 (Z : State) (a0 : Addr) (q1 : Int64) (a2 : Addr) (h0 : Heap) (n0 : Nat) (v : Option Value) (h : Heap) (L : List Loc) : Prop := v = none ∧ Fr n0 L ∧ Keep h0 h [a0] ∧ Exa Z h a0 "com/example/crowd_cache/crowdcache/core/Bucket" ∧ Fld Z h a0 "com/example/crowd_cache/crowdcache/core/Bucket" "index" "J" (.long q1) ∧ Fld Z h a0 "com/example/crowd_cache/crowdcache/core/Bucket" "positions" "[I" (.ref a2)
set_option maxRecDepth 65536 in
set_option maxHeartbeats 40000000 in
theorem rm1 (l : Launch) (Z : State) (aw : Array Value) (hw : ∀ d ∈ tables_1, d.before aw Z = true) (ws : List Jvm.Cond) (a0 : Addr) (q1 : Int64) (a2 : Addr) (h0 : Heap) (n0 : Nat) (Z0 : n0 ≤ h0.size) (E_a0 : Exa Z h0 a0 "com/example/crowd_cache/crowdcache/core/Bucket") (F_index_a0 : Fld Z h0 a0 "com/example/crowd_cache/crowdcache/core/Bucket" "index" "J" (.long (0 : Int64))) (F_positions_a0 : Fld Z h0 a0 "com/example/crowd_cache/crowdcache/core/Bucket" "positions" "[I" .null) (g_a0 : n0 ≤ a0) :
    MetFree l (⟨"com/example/crowd_cache/crowdcache/core/Bucket", "<init>", "(J[I)V"⟩ : MethodName) (head1 (Jvm.Cond.code (⟨"com/example/crowd_cache/crowdcache/core/Bucket", "<init>", "(J[I)V"⟩ : MethodName) prog_1_method_1_code 4 none :: ws) ({ frames := 1, cells := 0, slots := 0, locals := 12 } : Room)) (fun a U => a = #[(.ref a0), (.long q1), (.ref a2)] ∧ Z.Warmed39 U.vm ∧ U.heap = h0) (fun _ _ _ _ _ => True) (fun _ U o U' => ∃ v L, o = .returned v ∧ Q1 Z a0 q1 a2 h0 n0 v U'.heap L ∧ FrameEnd U o U' L ({ frames := 1, cells := 0, slots := 0, locals := 12 } : Room).cells ({ frames := 1, cells := 0, slots := 0, locals := 12 } : Room).slots) := by
  refine MetFree.of_bodySF (plainFor_of_name pn_0) hisR ?_
  intro p e s m args below meth c s₁ Bd hml0 hP hK
  obtain ⟨rfl, hZ, hh⟩ := hP
  have hx := Bd.exec
  have hby := Bd.bytes
  have hml : c.maxLocals = 4 := hml0
  have hown : s.vm.findClass "com/example/crowd_cache/crowdcache/core/Bucket" = some m.cls := findClass_of_methodNamed Bd.named
  have hnm := (name_of_methodNamed Bd.named Bd.method).1
  have hlk : meth.locks = false := Bd.notSynchronized
  have X0 : Stand p l e ({ frames := 1, cells := 0, slots := 0, locals := 12 } : Room) s m #[(.ref a0), (.long q1), (.ref a2)] below meth c s₁ [] 0 0 := Stand.of_body Bd
  have e0 : s₁.heap = h0 := by rw [← hh, Bd.state]; rfl
  have N0 := Fr.nil n0
  show OwnEnds p.tables e below (OwnQ s ({ frames := 1, cells := 0, slots := 0, locals := 12 } : Room).cells ({ frames := 1, cells := 0, slots := 0, locals := 12 } : Room).slots (Q1 Z a0 q1 a2 h0 n0)) (s₁.setTop (entryFrame m #[(.ref a0), (.long q1), (.ref a2)] 4))
  refine own_via (fun t k => castTop (ef_1 m a0 q1 a2) k) ?_
  show OwnEnds p.tables e below _ (s₁.setTop (mkF m 0 #[.val (.ref a0), .val (.long q1), .second, .val (.ref a2)] []))
  have K0 : Keep h0 h0 [a0] := Keep.refl _ _
  refine own_via (fun t k => XS.aloadN X0.here hx rfl (hb hby d1_0) rfl rfl k) ?_
  show OwnEnds p.tables e below _ (s₁.setTop (mkF m 1 #[.val (.ref a0), .val (.long q1), .second, .val (.ref a2)] [(.ref a0)]))
  obtain ⟨T1, X1, e1, st1⟩ := initO X0 hx hZ hown (hw _ (List.mem_of_getElem? (i := 9) rfl)) (hw _ (List.mem_of_getElem? (i := 10) rfl)) (hw _ (List.mem_of_getElem? (i := 11) rfl)) e0 (g := (mkF m 1 #[.val (.ref a0), .val (.long q1), .second, .val (.ref a2)] [(.ref a0)])) rfl (by rw [hml]; rfl) rfl (hb hby d1_1) (by decide) (W := 0) (by show 2 * 0 + _ ≤ _; exact Nat.le_of_eq rfl) (by decide)
  refine own_via st1 ?_
  show OwnEnds p.tables e below _ (T1.setTop (mkF m 4 #[.val (.ref a0), .val (.long q1), .second, .val (.ref a2)] []))
  refine own_via (fun t k => XS.aloadN X1.here hx rfl (hb hby d1_4) rfl rfl k) ?_
  show OwnEnds p.tables e below _ (T1.setTop (mkF m 5 #[.val (.ref a0), .val (.long q1), .second, .val (.ref a2)] [(.ref a0)]))
  refine own_via (fun t k => XS.lloadN X1.here hx rfl (hb hby d1_5) rfl k) ?_
  show OwnEnds p.tables e below _ (T1.setTop (mkF m 6 #[.val (.ref a0), .val (.long q1), .second, .val (.ref a2)] [(.long q1), (.ref a0)]))
  obtain ⟨T2, h2, X2, e2, W2, st2⟩ := putF X1 hx hZ hown (host := "") (Or.inl (hw _ (List.mem_of_getElem? (i := 12) rfl))) Via.refl e1 F_index_a0 E_a0 (Or.inr ⟨(hw _ (List.mem_of_getElem? (i := 13) rfl)), rfl, hnm⟩) (hw _ (List.mem_of_getElem? (i := 3) rfl)) (ty := .long) (by decide) rfl rfl (g := (mkF m 6 #[.val (.ref a0), .val (.long q1), .second, .val (.ref a2)] [(.long q1), (.ref a0)])) rfl rfl (hb hby d1_6)
  replace E_a0 := E_a0.wr W2
  replace F_index_a0 := F_index_a0.same W2
  replace F_positions_a0 := F_positions_a0.other W2 (Or.inr (slot_ne (Or.inr (hw _ (List.mem_of_getElem? (i := 15) rfl))) (Or.inr (hw _ (List.mem_of_getElem? (i := 13) rfl))) (by decide) (t := (.array .int)) (t' := .long) (by decide) (by decide)))
  replace K0 := K0.wr W2 (Or.inl (List.mem_of_getElem? (i := 0) rfl))
  have Zs_W2 : n0 ≤ _ := Nat.le_trans Z0 (Keep.of_wr W2).1
  have N2 := Fr.snoc X2 N0 g_a0
  refine own_via st2 ?_
  show OwnEnds p.tables e below _ (T2.setTop (mkF m 9 #[.val (.ref a0), .val (.long q1), .second, .val (.ref a2)] []))
  refine own_via (fun t k => XS.aloadN X2.here hx rfl (hb hby d1_9) rfl rfl k) ?_
  show OwnEnds p.tables e below _ (T2.setTop (mkF m 10 #[.val (.ref a0), .val (.long q1), .second, .val (.ref a2)] [(.ref a0)]))
  refine own_via (fun t k => XS.aloadN X2.here hx rfl (hb hby d1_10) rfl rfl k) ?_
  show OwnEnds p.tables e below _ (T2.setTop (mkF m 11 #[.val (.ref a0), .val (.long q1), .second, .val (.ref a2)] [(.ref a2), (.ref a0)]))
  obtain ⟨T3, h3, X3, e3, W3, st3⟩ := putF X2 hx hZ hown (host := "") (Or.inl (hw _ (List.mem_of_getElem? (i := 14) rfl))) Via.refl e2 F_positions_a0 E_a0 (Or.inr ⟨(hw _ (List.mem_of_getElem? (i := 15) rfl)), rfl, hnm⟩) (hw _ (List.mem_of_getElem? (i := 3) rfl)) (ty := (.array .int)) (by decide) rfl rfl (g := (mkF m 11 #[.val (.ref a0), .val (.long q1), .second, .val (.ref a2)] [(.ref a2), (.ref a0)])) rfl rfl (hb hby d1_11)
  replace E_a0 := E_a0.wr W3
  replace F_index_a0 := F_index_a0.other W3 (Or.inr (slot_ne (Or.inr (hw _ (List.mem_of_getElem? (i := 13) rfl))) (Or.inr (hw _ (List.mem_of_getElem? (i := 15) rfl))) (by decide) (t := .long) (t' := (.array .int)) (by decide) (by decide)))
  replace F_positions_a0 := F_positions_a0.same W3
  replace K0 := K0.wr W3 (Or.inl (List.mem_of_getElem? (i := 0) rfl))
  have Zs_W3 : n0 ≤ _ := Nat.le_trans Zs_W2 (Keep.of_wr W3).1
  have N3 := Fr.snoc X3 N2 g_a0
  refine own_via st3 ?_
  show OwnEnds p.tables e below _ (T3.setTop (mkF m 14 #[.val (.ref a0), .val (.long q1), .second, .val (.ref a2)] []))
  refine own_retV X3 hx Bd.returns hlk (hb hby d1_14) ?_ (by decide) (by decide)
  rw [e3]
  exact ⟨rfl, N3, K0, E_a0, F_index_a0, F_positions_a0⟩
theorem d6_0 : decode method_5_code 0 = .ok (.iload_n 0, 1) := by decide +kernel
theorem d6_1 : decode method_5_code 1 = .ok (.bipush 8, 2) := by decide +kernel
theorem d6_3 : decode method_5_code 3 = .ok (.idiv, 1) := by decide +kernel
theorem d6_4 : decode method_5_code 4 = .ok (.iload_n 1, 1) := by decide +kernel
theorem d6_5 : decode method_5_code 5 = .ok (.if_icmp .ne 14, 3) := by decide +kernel
theorem d6_8 : decode method_5_code 8 = .ok (.sipush 128, 3) := by decide +kernel
theorem d6_11 : decode method_5_code 11 = .ok (.iload_n 0, 1) := by decide +kernel
theorem d6_12 : decode method_5_code 12 = .ok (.bipush 8, 2) := by decide +kernel
theorem d6_14 : decode method_5_code 14 = .ok (.irem, 1) := by decide +kernel
theorem d6_15 : decode method_5_code 15 = .ok (.iushr, 1) := by decide +kernel
theorem d6_16 : decode method_5_code 16 = .ok (.goto 4, 3) := by decide +kernel
theorem d6_19 : decode method_5_code 19 = .ok (.iconst 0, 1) := by decide +kernel
theorem d6_20 : decode method_5_code 20 = .ok (.ireturn, 1) := by decide +kernel
theorem pn_1 : plainName "com/example/crowd_cache/crowdcache/core/BucketToBitmapPinLaw" = true := by first | (simp [plainName, overriddenIn]; done) | decide +kernel
theorem ef_6 (m : MethodId) (p0 : Int32) (p1 : Int32) : entryFrame m #[(.int p0), (.int p1)] 2 = mkF m 0 #[.val (.int p0), .val (.int p1)] [] := by first | (simp [entryFrame, mkF, argsToLocals, Value.category]; done) | rfl
def Q6 (Z : State) (p0 : Int32) (p1 : Int32) (h0 : Heap) (n0 : Nat) (v : Option Value) (h : Heap) (L : List Loc) : Prop := v = some (.int (own_bi p0 p1)) ∧ Fr n0 L ∧ h = h0
set_option maxRecDepth 65536 in
set_option maxHeartbeats 40000000 in
theorem rm6 (l : Launch) (Z : State) (aw : Array Value) (hw : ∀ d ∈ tables_1, d.before aw Z = true) (ws : List Jvm.Cond) (p0 : Int32) (p1 : Int32) (h0 : Heap) (n0 : Nat) (Z0 : n0 ≤ h0.size) :
    MetFree l (⟨"com/example/crowd_cache/crowdcache/core/BucketToBitmapPinLaw", "bitIn", "(II)I"⟩ : MethodName) (head1 (Jvm.Cond.code (⟨"com/example/crowd_cache/crowdcache/core/BucketToBitmapPinLaw", "bitIn", "(II)I"⟩ : MethodName) method_5_code 2 (some .int) :: ws) ({ frames := 0, cells := 0, slots := 0, locals := 0 } : Room)) (fun a U => a = #[(.int p0), (.int p1)] ∧ Z.Warmed39 U.vm ∧ U.heap = h0) (fun _ _ _ _ _ => True) (fun _ U o U' => ∃ v L, o = .returned v ∧ Q6 Z p0 p1 h0 n0 v U'.heap L ∧ FrameEnd U o U' L ({ frames := 0, cells := 0, slots := 0, locals := 0 } : Room).cells ({ frames := 0, cells := 0, slots := 0, locals := 0 } : Room).slots) := by
  refine MetFree.of_bodySF (plainFor_of_name pn_1) hisR ?_
  intro p e s m args below meth c s₁ Bd hml0 hP hK
  obtain ⟨rfl, hZ, hh⟩ := hP
  have hx := Bd.exec
  have hby := Bd.bytes
  have hml : c.maxLocals = 2 := hml0
  have hown : s.vm.findClass "com/example/crowd_cache/crowdcache/core/BucketToBitmapPinLaw" = some m.cls := findClass_of_methodNamed Bd.named
  have hnm := (name_of_methodNamed Bd.named Bd.method).1
  have hlk : meth.locks = false := Bd.notSynchronized
  have X0 : Stand p l e ({ frames := 0, cells := 0, slots := 0, locals := 0 } : Room) s m #[(.int p0), (.int p1)] below meth c s₁ [] 0 0 := Stand.of_body Bd
  have e0 : s₁.heap = h0 := by rw [← hh, Bd.state]; rfl
  have N0 := Fr.nil n0
  show OwnEnds p.tables e below (OwnQ s ({ frames := 0, cells := 0, slots := 0, locals := 0 } : Room).cells ({ frames := 0, cells := 0, slots := 0, locals := 0 } : Room).slots (Q6 Z p0 p1 h0 n0)) (s₁.setTop (entryFrame m #[(.int p0), (.int p1)] 2))
  refine own_via (fun t k => castTop (ef_6 m p0 p1) k) ?_
  show OwnEnds p.tables e below _ (s₁.setTop (mkF m 0 #[.val (.int p0), .val (.int p1)] []))
  refine own_via (fun t k => XS.iloadN X0.here hx rfl (hb hby d6_0) rfl k) ?_
  show OwnEnds p.tables e below _ (s₁.setTop (mkF m 1 #[.val (.int p0), .val (.int p1)] [(.int p0)]))
  refine own_via (fun t k => XS.bipush X0.here hx rfl (hb hby d6_1) k) ?_
  show OwnEnds p.tables e below _ (s₁.setTop (mkF m 3 #[.val (.int p0), .val (.int p1)] [(.int (8 : Int32)), (.int p0)]))
  refine own_via (fun t k => XS.idiv X0.here hx rfl (hb hby d6_3) rfl (by decide) k) ?_
  show OwnEnds p.tables e below _ (s₁.setTop (mkF m 4 #[.val (.int p0), .val (.int p1)] [(.int (p0 / (8 : Int32)))]))
  refine own_via (fun t k => XS.iloadN X0.here hx rfl (hb hby d6_4) rfl k) ?_
  show OwnEnds p.tables e below _ (s₁.setTop (mkF m 5 #[.val (.int p0), .val (.int p1)] [(.int p1), (.int (p0 / (8 : Int32)))]))
  by_cases hc5_1 : (p0 / (8 : Int32)) = p1
  · skip
    refine own_via (fun t k => XS.icmpNo X0.here hx rfl (hb hby d6_5) rfl (teq hc5_1).2 k) ?_
    show OwnEnds p.tables e below _ (s₁.setTop (mkF m 8 #[.val (.int p0), .val (.int p1)] []))
    refine own_via (fun t k => XS.sipush X0.here hx rfl (hb hby d6_8) k) ?_
    show OwnEnds p.tables e below _ (s₁.setTop (mkF m 11 #[.val (.int p0), .val (.int p1)] [(.int (128 : Int32))]))
    refine own_via (fun t k => XS.iloadN X0.here hx rfl (hb hby d6_11) rfl k) ?_
    show OwnEnds p.tables e below _ (s₁.setTop (mkF m 12 #[.val (.int p0), .val (.int p1)] [(.int p0), (.int (128 : Int32))]))
    refine own_via (fun t k => XS.bipush X0.here hx rfl (hb hby d6_12) k) ?_
    show OwnEnds p.tables e below _ (s₁.setTop (mkF m 14 #[.val (.int p0), .val (.int p1)] [(.int (8 : Int32)), (.int p0), (.int (128 : Int32))]))
    refine own_via (fun t k => Jvm.RoadKit.iremM X0 hx rfl (hb hby d6_14) rfl (by decide) k) ?_
    show OwnEnds p.tables e below _ (s₁.setTop (mkF m 15 #[.val (.int p0), .val (.int p1)] [(.int (p0 % (8 : Int32))), (.int (128 : Int32))]))
    refine own_via (fun t k => XS.iushr X0.here hx rfl (hb hby d6_15) rfl k) ?_
    show OwnEnds p.tables e below _ (s₁.setTop (mkF m 16 #[.val (.int p0), .val (.int p1)] [(.int (((128 : Int32).toUInt32 >>> ((p0 % (8 : Int32)) &&& 31).toUInt32).toInt32))]))
    refine own_via (fun t k => XS.goto X0.here hx rfl (pc0 := 16) (pc' := 20) rfl (hb hby d6_16) (by decide) (by decide) k) ?_
    show OwnEnds p.tables e below _ (s₁.setTop (mkF m 20 #[.val (.int p0), .val (.int p1)] [(.int (((128 : Int32).toUInt32 >>> ((p0 % (8 : Int32)) &&& 31).toUInt32).toInt32))]))
    refine own_retI X0 hx Bd.returns hlk (hb hby d6_20) ?_ (by decide) (by decide)
    rw [e0]
    exact ⟨congrArg (fun z => some (Value.int z)) (show (((128 : Int32).toUInt32 >>> ((p0 % (8 : Int32)) &&& 31).toUInt32).toInt32) = own_bi p0 p1 by simp only [own_bi, if_pos hc5_1, own_w]), N0, rfl⟩
  · skip
    refine own_via (fun t k => XS.icmpYes X0.here hx rfl (pc0 := 5) (pc' := 19) rfl (hb hby d6_5) rfl (feq hc5_1).2 (by decide) (by decide) k) ?_
    show OwnEnds p.tables e below _ (s₁.setTop (mkF m 19 #[.val (.int p0), .val (.int p1)] []))
    refine own_via (fun t k => XS.iconst X0.here hx rfl (hb hby d6_19) k) ?_
    show OwnEnds p.tables e below _ (s₁.setTop (mkF m 20 #[.val (.int p0), .val (.int p1)] [(.int (0 : Int32))]))
    refine own_retI X0 hx Bd.returns hlk (hb hby d6_20) ?_ (by decide) (by decide)
    rw [e0]
    exact ⟨congrArg (fun z => some (Value.int z)) (show (0 : Int32) = own_bi p0 p1 by simp only [own_bi, if_neg hc5_1, own_w]), N0, rfl⟩
theorem d3_0 : decode prog_1_method_7_code 0 = .ok (.aload_n 0, 1) := by decide +kernel
theorem d3_1 : decode prog_1_method_7_code 1 = .ok (.getfield 13, 3) := by decide +kernel
theorem d3_4 : decode prog_1_method_7_code 4 = .ok (.aload_n 0, 1) := by decide +kernel
theorem d3_5 : decode prog_1_method_7_code 5 = .ok (.getfield 13, 3) := by decide +kernel
theorem d3_8 : decode prog_1_method_7_code 8 = .ok (.arraylength, 1) := by decide +kernel
theorem d3_9 : decode prog_1_method_7_code 9 = .ok (.iconst 1, 1) := by decide +kernel
theorem d3_10 : decode prog_1_method_7_code 10 = .ok (.isub, 1) := by decide +kernel
theorem d3_11 : decode prog_1_method_7_code 11 = .ok (.iaload, 1) := by decide +kernel
theorem d3_12 : decode prog_1_method_7_code 12 = .ok (.bipush 8, 2) := by decide +kernel
theorem d3_14 : decode prog_1_method_7_code 14 = .ok (.idiv, 1) := by decide +kernel
theorem d3_15 : decode prog_1_method_7_code 15 = .ok (.iconst 1, 1) := by decide +kernel
theorem d3_16 : decode prog_1_method_7_code 16 = .ok (.iadd, 1) := by decide +kernel
theorem d3_17 : decode prog_1_method_7_code 17 = .ok (.newarray .byte, 2) := by decide +kernel
theorem d3_19 : decode prog_1_method_7_code 19 = .ok (.astore_n 1, 1) := by decide +kernel
theorem d3_20 : decode prog_1_method_7_code 20 = .ok (.aload_n 0, 1) := by decide +kernel
theorem d3_21 : decode prog_1_method_7_code 21 = .ok (.getfield 13, 3) := by decide +kernel
theorem d3_24 : decode prog_1_method_7_code 24 = .ok (.astore_n 2, 1) := by decide +kernel
theorem d3_25 : decode prog_1_method_7_code 25 = .ok (.aload_n 2, 1) := by decide +kernel
theorem d3_26 : decode prog_1_method_7_code 26 = .ok (.arraylength, 1) := by decide +kernel
theorem d3_27 : decode prog_1_method_7_code 27 = .ok (.istore_n 3, 1) := by decide +kernel
theorem d3_28 : decode prog_1_method_7_code 28 = .ok (.iconst 0, 1) := by decide +kernel
theorem d3_29 : decode prog_1_method_7_code 29 = .ok (.istore 4, 2) := by decide +kernel
theorem d3_31 : decode prog_1_method_7_code 31 = .ok (.iload 4, 2) := by decide +kernel
theorem d3_33 : decode prog_1_method_7_code 33 = .ok (.iload_n 3, 1) := by decide +kernel
theorem d3_34 : decode prog_1_method_7_code 34 = .ok (.if_icmp .ge 36, 3) := by decide +kernel
theorem d3_37 : decode prog_1_method_7_code 37 = .ok (.aload_n 2, 1) := by decide +kernel
theorem d3_38 : decode prog_1_method_7_code 38 = .ok (.iload 4, 2) := by decide +kernel
theorem d3_40 : decode prog_1_method_7_code 40 = .ok (.iaload, 1) := by decide +kernel
theorem d3_41 : decode prog_1_method_7_code 41 = .ok (.istore 5, 2) := by decide +kernel
theorem d3_43 : decode prog_1_method_7_code 43 = .ok (.aload_n 1, 1) := by decide +kernel
theorem d3_44 : decode prog_1_method_7_code 44 = .ok (.iload 5, 2) := by decide +kernel
theorem d3_46 : decode prog_1_method_7_code 46 = .ok (.bipush 8, 2) := by decide +kernel
theorem d3_48 : decode prog_1_method_7_code 48 = .ok (.idiv, 1) := by decide +kernel
theorem d3_49 : decode prog_1_method_7_code 49 = .ok (.dup2, 1) := by decide +kernel
theorem d3_50 : decode prog_1_method_7_code 50 = .ok (.baload, 1) := by decide +kernel
theorem d3_51 : decode prog_1_method_7_code 51 = .ok (.sipush 128, 3) := by decide +kernel
theorem d3_54 : decode prog_1_method_7_code 54 = .ok (.iload 5, 2) := by decide +kernel
theorem d3_56 : decode prog_1_method_7_code 56 = .ok (.bipush 8, 2) := by decide +kernel
theorem d3_58 : decode prog_1_method_7_code 58 = .ok (.irem, 1) := by decide +kernel
theorem d3_59 : decode prog_1_method_7_code 59 = .ok (.iushr, 1) := by decide +kernel
theorem d3_60 : decode prog_1_method_7_code 60 = .ok (.i2b, 1) := by decide +kernel
theorem d3_61 : decode prog_1_method_7_code 61 = .ok (.ior, 1) := by decide +kernel
theorem d3_62 : decode prog_1_method_7_code 62 = .ok (.i2b, 1) := by decide +kernel
theorem d3_63 : decode prog_1_method_7_code 63 = .ok (.bastore, 1) := by decide +kernel
theorem d3_64 : decode prog_1_method_7_code 64 = .ok (.iinc 4 1, 3) := by decide +kernel
theorem d3_67 : decode prog_1_method_7_code 67 = .ok (.goto (-36), 3) := by decide +kernel
theorem d3_70 : decode prog_1_method_7_code 70 = .ok (.aload_n 1, 1) := by decide +kernel
theorem d3_71 : decode prog_1_method_7_code 71 = .ok (.areturn, 1) := by decide +kernel
theorem ef_31 (m : MethodId) (a0 : Addr) : entryFrame m #[(.ref a0)] 6 = mkF m 0 #[.val (.ref a0), .unset, .unset, .unset, .unset, .unset] [] := by first | (simp [entryFrame, mkF, argsToLocals, Value.category]; done) | rfl
def Q31 (Z : State) (a0 : Addr) (pos : Addr) (q0 : Int32) (h0 : Heap) (n0 : Nat) (v : Option Value) (h : Heap) (L : List Loc) : Prop := ∃ b : Addr, v = some (.ref b) ∧ Fr n0 L ∧ Keep h0 h [] ∧ h0.size ≤ b ∧ AL Z h b .byte (own_bl ((q0 / 8).toNatClampNeg + 1) [q0])
set_option maxRecDepth 65536 in
set_option maxHeartbeats 40000000 in
theorem rm31 (l : Launch) (Z : State) (aw : Array Value) (hw : ∀ d ∈ tables_1, d.before aw Z = true) (ws : List Jvm.Cond) (a0 : Addr) (pos : Addr) (q0 : Int32) (h0 : Heap) (n0 : Nat) (Z0 : n0 ≤ h0.size) (E_a0 : Exa Z h0 a0 "com/example/crowd_cache/crowdcache/core/Bucket") (F_pos : Fld Z h0 a0 "com/example/crowd_cache/crowdcache/core/Bucket" "positions" "[I" (.ref pos)) (A_pos : AL Z h0 pos .int [(.int q0)]) (hq0 : 0 ≤ q0.toInt ∧ q0.toInt ≤ 65535) (hle_q0 : q0.toInt ≤ q0.toInt) :
    MetFree l (⟨"com/example/crowd_cache/crowdcache/core/Bucket", "toBitmap", "()[B"⟩ : MethodName) (head1 (Jvm.Cond.code (⟨"com/example/crowd_cache/crowdcache/core/Bucket", "toBitmap", "()[B"⟩ : MethodName) prog_1_method_7_code 6 (some (.array .byte)) :: ws) ({ frames := 0, cells := 1, slots := 8192, locals := 0 } : Room)) (fun a U => a = #[(.ref a0)] ∧ Z.Warmed39 U.vm ∧ U.heap = h0) (fun _ _ _ _ _ => True) (fun _ U o U' => ∃ v L, o = .returned v ∧ Q31 Z a0 pos q0 h0 n0 v U'.heap L ∧ FrameEnd U o U' L ({ frames := 0, cells := 1, slots := 8192, locals := 0 } : Room).cells ({ frames := 0, cells := 1, slots := 8192, locals := 0 } : Room).slots) := by
  refine MetFree.of_bodySF (plainFor_of_name pn_0) hisR ?_
  intro p e s m args below meth c s₁ Bd hml0 hP hK
  obtain ⟨rfl, hZ, hh⟩ := hP
  have hx := Bd.exec
  have hby := Bd.bytes
  have hml : c.maxLocals = 6 := hml0
  have hown : s.vm.findClass "com/example/crowd_cache/crowdcache/core/Bucket" = some m.cls := findClass_of_methodNamed Bd.named
  have hnm := (name_of_methodNamed Bd.named Bd.method).1
  have hlk : meth.locks = false := Bd.notSynchronized
  have X0 : Stand p l e ({ frames := 0, cells := 1, slots := 8192, locals := 0 } : Room) s m #[(.ref a0)] below meth c s₁ [] 0 0 := Stand.of_body Bd
  have e0 : s₁.heap = h0 := by rw [← hh, Bd.state]; rfl
  have N0 := Fr.nil n0
  show OwnEnds p.tables e below (OwnQ s ({ frames := 0, cells := 1, slots := 8192, locals := 0 } : Room).cells ({ frames := 0, cells := 1, slots := 8192, locals := 0 } : Room).slots (Q31 Z a0 pos q0 h0 n0)) (s₁.setTop (entryFrame m #[(.ref a0)] 6))
  refine own_via (fun t k => castTop (ef_31 m a0) k) ?_
  show OwnEnds p.tables e below _ (s₁.setTop (mkF m 0 #[.val (.ref a0), .unset, .unset, .unset, .unset, .unset] []))
  have K0 : Keep h0 h0 [] := Keep.refl _ _
  refine own_via (fun t k => XS.aloadN X0.here hx rfl (hb hby d3_0) rfl rfl k) ?_
  show OwnEnds p.tables e below _ (s₁.setTop (mkF m 1 #[.val (.ref a0), .unset, .unset, .unset, .unset, .unset] [(.ref a0)]))
  obtain ⟨T1, X1, e1, st1⟩ := getF X0 hx hZ hown (host := "") (Or.inl (hw _ (List.mem_of_getElem? (i := 14) rfl))) Via.refl e0 F_pos (g := (mkF m 1 #[.val (.ref a0), .unset, .unset, .unset, .unset, .unset] [(.ref a0)])) rfl rfl (hb hby d3_1)
  refine own_via st1 ?_
  show OwnEnds p.tables e below _ (T1.setTop (mkF m 4 #[.val (.ref a0), .unset, .unset, .unset, .unset, .unset] [(.ref pos)]))
  refine own_via (fun t k => XS.aloadN X1.here hx rfl (hb hby d3_4) rfl rfl k) ?_
  show OwnEnds p.tables e below _ (T1.setTop (mkF m 5 #[.val (.ref a0), .unset, .unset, .unset, .unset, .unset] [(.ref a0), (.ref pos)]))
  obtain ⟨T2, X2, e2, st2⟩ := getF X1 hx hZ hown (host := "") (Or.inl (hw _ (List.mem_of_getElem? (i := 14) rfl))) Via.refl e1 F_pos (g := (mkF m 5 #[.val (.ref a0), .unset, .unset, .unset, .unset, .unset] [(.ref a0), (.ref pos)])) rfl rfl (hb hby d3_5)
  refine own_via st2 ?_
  show OwnEnds p.tables e below _ (T2.setTop (mkF m 8 #[.val (.ref a0), .unset, .unset, .unset, .unset, .unset] [(.ref pos), (.ref pos)]))
  refine own_via (own_len X2 hx hZ e2 A_pos (z := (1 : Int32)) rfl (g := (mkF m 8 #[.val (.ref a0), .unset, .unset, .unset, .unset, .unset] [(.ref pos), (.ref pos)])) rfl rfl (hb hby d3_8)) ?_
  show OwnEnds p.tables e below _ (T2.setTop (mkF m 9 #[.val (.ref a0), .unset, .unset, .unset, .unset, .unset] [(.int (1 : Int32)), (.ref pos)]))
  refine own_via (fun t k => XS.iconst X2.here hx rfl (hb hby d3_9) k) ?_
  show OwnEnds p.tables e below _ (T2.setTop (mkF m 10 #[.val (.ref a0), .unset, .unset, .unset, .unset, .unset] [(.int (1 : Int32)), (.int (1 : Int32)), (.ref pos)]))
  refine own_via (fun t k => XS.isub X2.here hx rfl (hb hby d3_10) rfl k) ?_
  show OwnEnds p.tables e below _ (T2.setTop (mkF m 11 #[.val (.ref a0), .unset, .unset, .unset, .unset, .unset] [(.int (0 : Int32)), (.ref pos)]))
  refine own_via (own_ldI X2 hx hZ e2 A_pos (v := (.int q0)) 0 rfl rfl (g := (mkF m 11 #[.val (.ref a0), .unset, .unset, .unset, .unset, .unset] [(.int (0 : Int32)), (.ref pos)])) rfl rfl (hb hby d3_11)) ?_
  show OwnEnds p.tables e below _ (T2.setTop (mkF m 12 #[.val (.ref a0), .unset, .unset, .unset, .unset, .unset] [(.int q0)]))
  refine own_via (fun t k => XS.bipush X2.here hx rfl (hb hby d3_12) k) ?_
  show OwnEnds p.tables e below _ (T2.setTop (mkF m 14 #[.val (.ref a0), .unset, .unset, .unset, .unset, .unset] [(.int (8 : Int32)), (.int q0)]))
  refine own_via (fun t k => XS.idiv X2.here hx rfl (hb hby d3_14) rfl (by decide) k) ?_
  show OwnEnds p.tables e below _ (T2.setTop (mkF m 15 #[.val (.ref a0), .unset, .unset, .unset, .unset, .unset] [(.int (q0 / (8 : Int32)))]))
  refine own_via (fun t k => XS.iconst X2.here hx rfl (hb hby d3_15) k) ?_
  show OwnEnds p.tables e below _ (T2.setTop (mkF m 16 #[.val (.ref a0), .unset, .unset, .unset, .unset, .unset] [(.int (1 : Int32)), (.int (q0 / (8 : Int32)))]))
  refine own_via (fun t k => XS.iadd X2.here hx rfl (hb hby d3_16) rfl k) ?_
  show OwnEnds p.tables e below _ (T2.setTop (mkF m 17 #[.val (.ref a0), .unset, .unset, .unset, .unset, .unset] [(.int ((q0 / (8 : Int32)) + (1 : Int32)))]))
  obtain ⟨T3, h3, k3, X3, e3, E3, A3, st3⟩ := newP X2 hx hZ (hw _ (List.mem_of_getElem? (i := 21) rfl)) e2 (g := (mkF m 17 #[.val (.ref a0), .unset, .unset, .unset, .unset, .unset] [(.int ((q0 / (8 : Int32)) + (1 : Int32)))])) rfl (hb hby d3_17) rfl (own_neg hq0) (cap := 8192) (by rw [own_clamp hq0]; exact (own_tl hq0).2) (by decide) (by decide) (by decide)
  obtain ⟨b3, g3⟩ : ∃ z, z = h0.size := ⟨_, rfl⟩
  rw [← g3] at A3 st3
  have ne_a0_b3 : a0 ≠ b3 := Nat.ne_of_lt (Nat.lt_of_lt_of_le E_a0.lt (Nat.le_of_eq g3.symm))
  have ne_pos_b3 : pos ≠ b3 := Nat.ne_of_lt (Nat.lt_of_lt_of_le A_pos.lt (Nat.le_of_eq g3.symm))
  have g_b3 : n0 ≤ b3 := Nat.le_trans Z0 (Nat.le_of_eq g3.symm)
  have sz_b3 : h0.size ≤ b3 := Nat.le_trans K0.1 (Nat.le_of_eq g3.symm)
  have Zs_3 : n0 ≤ _ := Nat.le_trans Z0 E3.1
  replace E_a0 := E_a0.ext E3
  replace F_pos := F_pos.ext E3
  replace A_pos := A_pos.ext E3
  replace K0 := K0.ext E3
  have A_b3 : AL Z h3 b3 .byte (List.replicate ((q0 / 8).toNatClampNeg + 1) (.int (0 : Int32))) := AL.new A3 (own_neg hq0) (i := ((q0 / 8).toNatClampNeg + 1)) (own_clamp hq0)
  refine own_via st3 ?_
  show OwnEnds p.tables e below _ (T3.setTop (mkF m 19 #[.val (.ref a0), .unset, .unset, .unset, .unset, .unset] [(.ref b3)]))
  rw [own_bl0] at A_b3
  refine own_via (fun t k => XS.astoreN X3.here hx rfl (hb hby d3_19) rfl rfl (l' := #[.val (.ref a0), .val (.ref b3), .unset, .unset, .unset, .unset]) rfl k) ?_
  show OwnEnds p.tables e below _ (T3.setTop (mkF m 20 #[.val (.ref a0), .val (.ref b3), .unset, .unset, .unset, .unset] []))
  refine own_via (fun t k => XS.aloadN X3.here hx rfl (hb hby d3_20) rfl rfl k) ?_
  show OwnEnds p.tables e below _ (T3.setTop (mkF m 21 #[.val (.ref a0), .val (.ref b3), .unset, .unset, .unset, .unset] [(.ref a0)]))
  obtain ⟨T4, X4, e4, st4⟩ := getF X3 hx hZ hown (host := "") (Or.inl (hw _ (List.mem_of_getElem? (i := 14) rfl))) Via.refl e3 F_pos (g := (mkF m 21 #[.val (.ref a0), .val (.ref b3), .unset, .unset, .unset, .unset] [(.ref a0)])) rfl rfl (hb hby d3_21)
  refine own_via st4 ?_
  show OwnEnds p.tables e below _ (T4.setTop (mkF m 24 #[.val (.ref a0), .val (.ref b3), .unset, .unset, .unset, .unset] [(.ref pos)]))
  refine own_via (fun t k => XS.astoreN X4.here hx rfl (hb hby d3_24) rfl rfl (l' := #[.val (.ref a0), .val (.ref b3), .val (.ref pos), .unset, .unset, .unset]) rfl k) ?_
  show OwnEnds p.tables e below _ (T4.setTop (mkF m 25 #[.val (.ref a0), .val (.ref b3), .val (.ref pos), .unset, .unset, .unset] []))
  refine own_via (fun t k => XS.aloadN X4.here hx rfl (hb hby d3_25) rfl rfl k) ?_
  show OwnEnds p.tables e below _ (T4.setTop (mkF m 26 #[.val (.ref a0), .val (.ref b3), .val (.ref pos), .unset, .unset, .unset] [(.ref pos)]))
  refine own_via (own_len X4 hx hZ e4 A_pos (z := (1 : Int32)) rfl (g := (mkF m 26 #[.val (.ref a0), .val (.ref b3), .val (.ref pos), .unset, .unset, .unset] [(.ref pos)])) rfl rfl (hb hby d3_26)) ?_
  show OwnEnds p.tables e below _ (T4.setTop (mkF m 27 #[.val (.ref a0), .val (.ref b3), .val (.ref pos), .unset, .unset, .unset] [(.int (1 : Int32))]))
  refine own_via (fun t k => XS.istoreN X4.here hx rfl (hb hby d3_27) rfl (l' := #[.val (.ref a0), .val (.ref b3), .val (.ref pos), .val (.int (1 : Int32)), .unset, .unset]) rfl k) ?_
  show OwnEnds p.tables e below _ (T4.setTop (mkF m 28 #[.val (.ref a0), .val (.ref b3), .val (.ref pos), .val (.int (1 : Int32)), .unset, .unset] []))
  refine own_via (fun t k => XS.iconst X4.here hx rfl (hb hby d3_28) k) ?_
  show OwnEnds p.tables e below _ (T4.setTop (mkF m 29 #[.val (.ref a0), .val (.ref b3), .val (.ref pos), .val (.int (1 : Int32)), .unset, .unset] [(.int (0 : Int32))]))
  refine own_via (fun t k => XS.istore X4.here hx rfl (hb hby d3_29) rfl (l' := #[.val (.ref a0), .val (.ref b3), .val (.ref pos), .val (.int (1 : Int32)), .val (.int (0 : Int32)), .unset]) rfl k) ?_
  show OwnEnds p.tables e below _ (T4.setTop (mkF m 31 #[.val (.ref a0), .val (.ref b3), .val (.ref pos), .val (.int (1 : Int32)), .val (.int (0 : Int32)), .unset] []))
  refine own_via (fun t k => XS.iload X4.here hx rfl (hb hby d3_31) rfl k) ?_
  show OwnEnds p.tables e below _ (T4.setTop (mkF m 33 #[.val (.ref a0), .val (.ref b3), .val (.ref pos), .val (.int (1 : Int32)), .val (.int (0 : Int32)), .unset] [(.int (0 : Int32))]))
  refine own_via (fun t k => XS.iloadN X4.here hx rfl (hb hby d3_33) rfl k) ?_
  show OwnEnds p.tables e below _ (T4.setTop (mkF m 34 #[.val (.ref a0), .val (.ref b3), .val (.ref pos), .val (.int (1 : Int32)), .val (.int (0 : Int32)), .unset] [(.int (1 : Int32)), (.int (0 : Int32))]))
  have hc34_5 : (0 : Int32) < (1 : Int32) := by decide
  refine own_via (fun t k => XS.icmpNo X4.here hx rfl (hb hby d3_34) rfl (tlt hc34_5).2.1 k) ?_
  show OwnEnds p.tables e below _ (T4.setTop (mkF m 37 #[.val (.ref a0), .val (.ref b3), .val (.ref pos), .val (.int (1 : Int32)), .val (.int (0 : Int32)), .unset] []))
  refine own_via (fun t k => XS.aloadN X4.here hx rfl (hb hby d3_37) rfl rfl k) ?_
  show OwnEnds p.tables e below _ (T4.setTop (mkF m 38 #[.val (.ref a0), .val (.ref b3), .val (.ref pos), .val (.int (1 : Int32)), .val (.int (0 : Int32)), .unset] [(.ref pos)]))
  refine own_via (fun t k => XS.iload X4.here hx rfl (hb hby d3_38) rfl k) ?_
  show OwnEnds p.tables e below _ (T4.setTop (mkF m 40 #[.val (.ref a0), .val (.ref b3), .val (.ref pos), .val (.int (1 : Int32)), .val (.int (0 : Int32)), .unset] [(.int (0 : Int32)), (.ref pos)]))
  refine own_via (own_ldI X4 hx hZ e4 A_pos (v := (.int q0)) 0 rfl rfl (g := (mkF m 40 #[.val (.ref a0), .val (.ref b3), .val (.ref pos), .val (.int (1 : Int32)), .val (.int (0 : Int32)), .unset] [(.int (0 : Int32)), (.ref pos)])) rfl rfl (hb hby d3_40)) ?_
  show OwnEnds p.tables e below _ (T4.setTop (mkF m 41 #[.val (.ref a0), .val (.ref b3), .val (.ref pos), .val (.int (1 : Int32)), .val (.int (0 : Int32)), .unset] [(.int q0)]))
  refine own_via (fun t k => XS.istore X4.here hx rfl (hb hby d3_41) rfl (l' := #[.val (.ref a0), .val (.ref b3), .val (.ref pos), .val (.int (1 : Int32)), .val (.int (0 : Int32)), .val (.int q0)]) rfl k) ?_
  show OwnEnds p.tables e below _ (T4.setTop (mkF m 43 #[.val (.ref a0), .val (.ref b3), .val (.ref pos), .val (.int (1 : Int32)), .val (.int (0 : Int32)), .val (.int q0)] []))
  refine own_via (fun t k => XS.aloadN X4.here hx rfl (hb hby d3_43) rfl rfl k) ?_
  show OwnEnds p.tables e below _ (T4.setTop (mkF m 44 #[.val (.ref a0), .val (.ref b3), .val (.ref pos), .val (.int (1 : Int32)), .val (.int (0 : Int32)), .val (.int q0)] [(.ref b3)]))
  refine own_via (fun t k => XS.iload X4.here hx rfl (hb hby d3_44) rfl k) ?_
  show OwnEnds p.tables e below _ (T4.setTop (mkF m 46 #[.val (.ref a0), .val (.ref b3), .val (.ref pos), .val (.int (1 : Int32)), .val (.int (0 : Int32)), .val (.int q0)] [(.int q0), (.ref b3)]))
  refine own_via (fun t k => XS.bipush X4.here hx rfl (hb hby d3_46) k) ?_
  show OwnEnds p.tables e below _ (T4.setTop (mkF m 48 #[.val (.ref a0), .val (.ref b3), .val (.ref pos), .val (.int (1 : Int32)), .val (.int (0 : Int32)), .val (.int q0)] [(.int (8 : Int32)), (.int q0), (.ref b3)]))
  refine own_via (fun t k => XS.idiv X4.here hx rfl (hb hby d3_48) rfl (by decide) k) ?_
  show OwnEnds p.tables e below _ (T4.setTop (mkF m 49 #[.val (.ref a0), .val (.ref b3), .val (.ref pos), .val (.int (1 : Int32)), .val (.int (0 : Int32)), .val (.int q0)] [(.int (q0 / (8 : Int32))), (.ref b3)]))
  refine own_via (U' := T4.setTop (mkF m 50 #[.val (.ref a0), .val (.ref b3), .val (.ref pos), .val (.int (1 : Int32)), .val (.int (0 : Int32)), .val (.int q0)] [(.int (q0 / (8 : Int32))), (.ref b3), (.int (q0 / (8 : Int32))), (.ref b3)])) (fun t k => ?_) ?_
  · show Steps p.tables e below (T4.setTop (mkF m 49 #[.val (.ref a0), .val (.ref b3), .val (.ref pos), .val (.int (1 : Int32)), .val (.int (0 : Int32)), .val (.int q0)] [(.int (q0 / (8 : Int32))), (.ref b3)])) t
    jvm_step X4.here [X4.here.top, hx, (hb hby d3_49), Value.category]
    exact k
  refine own_via (own_ldB X4 hx hZ e4 A_b3 (v := (.int (own_g [] ((q0 / 8).toNatClampNeg)))) ((q0 / 8).toNatClampNeg) (own_d8 hq0).1 (own_bat [] (by have := own_lt hq0 hq0 hle_q0 []; rwa [own_bll] at this)) (g := (mkF m 50 #[.val (.ref a0), .val (.ref b3), .val (.ref pos), .val (.int (1 : Int32)), .val (.int (0 : Int32)), .val (.int q0)] [(.int (q0 / (8 : Int32))), (.ref b3), (.int (q0 / (8 : Int32))), (.ref b3)])) rfl rfl (hb hby d3_50)) ?_
  show OwnEnds p.tables e below _ (T4.setTop (mkF m 51 #[.val (.ref a0), .val (.ref b3), .val (.ref pos), .val (.int (1 : Int32)), .val (.int (0 : Int32)), .val (.int q0)] [(.int (own_g [] ((q0 / 8).toNatClampNeg))), (.int (q0 / (8 : Int32))), (.ref b3)]))
  refine own_via (fun t k => XS.sipush X4.here hx rfl (hb hby d3_51) k) ?_
  show OwnEnds p.tables e below _ (T4.setTop (mkF m 54 #[.val (.ref a0), .val (.ref b3), .val (.ref pos), .val (.int (1 : Int32)), .val (.int (0 : Int32)), .val (.int q0)] [(.int (128 : Int32)), (.int (own_g [] ((q0 / 8).toNatClampNeg))), (.int (q0 / (8 : Int32))), (.ref b3)]))
  refine own_via (fun t k => XS.iload X4.here hx rfl (hb hby d3_54) rfl k) ?_
  show OwnEnds p.tables e below _ (T4.setTop (mkF m 56 #[.val (.ref a0), .val (.ref b3), .val (.ref pos), .val (.int (1 : Int32)), .val (.int (0 : Int32)), .val (.int q0)] [(.int q0), (.int (128 : Int32)), (.int (own_g [] ((q0 / 8).toNatClampNeg))), (.int (q0 / (8 : Int32))), (.ref b3)]))
  refine own_via (fun t k => XS.bipush X4.here hx rfl (hb hby d3_56) k) ?_
  show OwnEnds p.tables e below _ (T4.setTop (mkF m 58 #[.val (.ref a0), .val (.ref b3), .val (.ref pos), .val (.int (1 : Int32)), .val (.int (0 : Int32)), .val (.int q0)] [(.int (8 : Int32)), (.int q0), (.int (128 : Int32)), (.int (own_g [] ((q0 / 8).toNatClampNeg))), (.int (q0 / (8 : Int32))), (.ref b3)]))
  refine own_via (fun t k => Jvm.RoadKit.iremM X4 hx rfl (hb hby d3_58) rfl (by decide) k) ?_
  show OwnEnds p.tables e below _ (T4.setTop (mkF m 59 #[.val (.ref a0), .val (.ref b3), .val (.ref pos), .val (.int (1 : Int32)), .val (.int (0 : Int32)), .val (.int q0)] [(.int (q0 % (8 : Int32))), (.int (128 : Int32)), (.int (own_g [] ((q0 / 8).toNatClampNeg))), (.int (q0 / (8 : Int32))), (.ref b3)]))
  refine own_via (fun t k => XS.iushr X4.here hx rfl (hb hby d3_59) rfl k) ?_
  show OwnEnds p.tables e below _ (T4.setTop (mkF m 60 #[.val (.ref a0), .val (.ref b3), .val (.ref pos), .val (.int (1 : Int32)), .val (.int (0 : Int32)), .val (.int q0)] [(.int (((128 : Int32).toUInt32 >>> ((q0 % (8 : Int32)) &&& 31).toUInt32).toInt32)), (.int (own_g [] ((q0 / 8).toNatClampNeg))), (.int (q0 / (8 : Int32))), (.ref b3)]))
  refine own_via (fun t k => XS.i2b X4.here hx rfl (hb hby d3_60) rfl k) ?_
  show OwnEnds p.tables e below _ (T4.setTop (mkF m 61 #[.val (.ref a0), .val (.ref b3), .val (.ref pos), .val (.int (1 : Int32)), .val (.int (0 : Int32)), .val (.int q0)] [(.int ((((128 : Int32).toUInt32 >>> ((q0 % (8 : Int32)) &&& 31).toUInt32).toInt32).toInt8.toInt32)), (.int (own_g [] ((q0 / 8).toNatClampNeg))), (.int (q0 / (8 : Int32))), (.ref b3)]))
  refine own_via (fun t k => XS.ior X4.here hx rfl (hb hby d3_61) rfl k) ?_
  show OwnEnds p.tables e below _ (T4.setTop (mkF m 62 #[.val (.ref a0), .val (.ref b3), .val (.ref pos), .val (.int (1 : Int32)), .val (.int (0 : Int32)), .val (.int q0)] [(.int ((own_g [] ((q0 / 8).toNatClampNeg)) ||| ((((128 : Int32).toUInt32 >>> ((q0 % (8 : Int32)) &&& 31).toUInt32).toInt32).toInt8.toInt32))), (.int (q0 / (8 : Int32))), (.ref b3)]))
  refine own_via (fun t k => XS.i2b X4.here hx rfl (hb hby d3_62) rfl k) ?_
  show OwnEnds p.tables e below _ (T4.setTop (mkF m 63 #[.val (.ref a0), .val (.ref b3), .val (.ref pos), .val (.int (1 : Int32)), .val (.int (0 : Int32)), .val (.int q0)] [(.int (((own_g [] ((q0 / 8).toNatClampNeg)) ||| ((((128 : Int32).toUInt32 >>> ((q0 % (8 : Int32)) &&& 31).toUInt32).toInt32).toInt8.toInt32)).toInt8.toInt32)), (.int (q0 / (8 : Int32))), (.ref b3)]))
  obtain ⟨T6, h6, X6, e6, W6, AA6, st6⟩ := own_stB X4 hx hZ e4 A_b3 ((q0 / 8).toNatClampNeg) (own_d8 hq0).1 (own_lt hq0 hq0 hle_q0 _) (g := (mkF m 63 #[.val (.ref a0), .val (.ref b3), .val (.ref pos), .val (.int (1 : Int32)), .val (.int (0 : Int32)), .val (.int q0)] [(.int (((own_g [] ((q0 / 8).toNatClampNeg)) ||| ((((128 : Int32).toUInt32 >>> ((q0 % (8 : Int32)) &&& 31).toUInt32).toInt32).toInt8.toInt32)).toInt8.toInt32)), (.int (q0 / (8 : Int32))), (.ref b3)])) rfl rfl (hb hby d3_63)
  replace E_a0 := E_a0.wr W6
  replace F_pos := F_pos.other W6 (Or.inl ne_a0_b3)
  replace A_pos := A_pos.other W6 ne_pos_b3
  replace K0 := K0.wr W6 (Or.inr sz_b3)
  have Zs_W6 : n0 ≤ _ := Nat.le_trans Zs_3 (Keep.of_wr W6).1
  replace A_b3 : AL Z h6 b3 .byte ((own_bl ((q0 / 8).toNatClampNeg + 1) []).set ((q0 / 8).toNatClampNeg) (.int (nar .byte (((own_g [] ((q0 / 8).toNatClampNeg)) ||| ((((128 : Int32).toUInt32 >>> ((q0 % (8 : Int32)) &&& 31).toUInt32).toInt32).toInt8.toInt32)).toInt8.toInt32)))) := AA6
  have N6 := Fr.snoc X6 N0 g_b3
  refine own_via st6 ?_
  show OwnEnds p.tables e below _ (T6.setTop (mkF m 64 #[.val (.ref a0), .val (.ref b3), .val (.ref pos), .val (.int (1 : Int32)), .val (.int (0 : Int32)), .val (.int q0)] []))
  replace A_b3 : AL Z h6 b3 .byte (own_bl ((q0 / 8).toNatClampNeg + 1) [q0]) := own_cast (own_blset ((q0 / 8).toNatClampNeg + 1) [] q0 _ rfl) A_b3
  refine own_via (fun t k => XS.iinc X6.here hx rfl (hb hby d3_64) rfl (l' := #[.val (.ref a0), .val (.ref b3), .val (.ref pos), .val (.int (1 : Int32)), .val (.int (1 : Int32)), .val (.int q0)]) rfl k) ?_
  show OwnEnds p.tables e below _ (T6.setTop (mkF m 67 #[.val (.ref a0), .val (.ref b3), .val (.ref pos), .val (.int (1 : Int32)), .val (.int (1 : Int32)), .val (.int q0)] []))
  refine own_via (fun t k => XS.goto X6.here hx rfl (pc0 := 67) (pc' := 31) rfl (hb hby d3_67) (by decide) (by decide) k) ?_
  show OwnEnds p.tables e below _ (T6.setTop (mkF m 31 #[.val (.ref a0), .val (.ref b3), .val (.ref pos), .val (.int (1 : Int32)), .val (.int (1 : Int32)), .val (.int q0)] []))
  refine own_via (fun t k => XS.iload X6.here hx rfl (hb hby d3_31) rfl k) ?_
  show OwnEnds p.tables e below _ (T6.setTop (mkF m 33 #[.val (.ref a0), .val (.ref b3), .val (.ref pos), .val (.int (1 : Int32)), .val (.int (1 : Int32)), .val (.int q0)] [(.int (1 : Int32))]))
  refine own_via (fun t k => XS.iloadN X6.here hx rfl (hb hby d3_33) rfl k) ?_
  show OwnEnds p.tables e below _ (T6.setTop (mkF m 34 #[.val (.ref a0), .val (.ref b3), .val (.ref pos), .val (.int (1 : Int32)), .val (.int (1 : Int32)), .val (.int q0)] [(.int (1 : Int32)), (.int (1 : Int32))]))
  have hc34_7 : ¬ ((1 : Int32) < (1 : Int32)) := by decide
  refine own_via (fun t k => XS.icmpYes X6.here hx rfl (pc0 := 34) (pc' := 70) rfl (hb hby d3_34) rfl (flt hc34_7).2.1 (by decide) (by decide) k) ?_
  show OwnEnds p.tables e below _ (T6.setTop (mkF m 70 #[.val (.ref a0), .val (.ref b3), .val (.ref pos), .val (.int (1 : Int32)), .val (.int (1 : Int32)), .val (.int q0)] []))
  refine own_via (fun t k => XS.aloadN X6.here hx rfl (hb hby d3_70) rfl rfl k) ?_
  show OwnEnds p.tables e below _ (T6.setTop (mkF m 71 #[.val (.ref a0), .val (.ref b3), .val (.ref pos), .val (.int (1 : Int32)), .val (.int (1 : Int32)), .val (.int q0)] [(.ref b3)]))
  refine own_retA X6 hx Bd.returns rfl rfl hlk (hb hby d3_71) ?_ (by decide) (by decide)
  rw [e6]
  exact ⟨b3, rfl, N6, K0, sz_b3, A_b3⟩
theorem d5_0 : decode method_4_code 0 = .ok (.aload_n 0, 1) := by decide +kernel
theorem d5_1 : decode method_4_code 1 = .ok (.iconst 0, 1) := by decide +kernel
theorem d5_2 : decode method_4_code 2 = .ok (.iaload, 1) := by decide +kernel
theorem d5_3 : decode method_4_code 3 = .ok (.iload_n 2, 1) := by decide +kernel
theorem d5_4 : decode method_4_code 4 = .ok (.invokestatic 32, 3) := by decide +kernel
theorem d5_7 : decode method_4_code 7 = .ok (.istore_n 3, 1) := by decide +kernel
theorem d5_8 : decode method_4_code 8 = .ok (.iload_n 1, 1) := by decide +kernel
theorem d5_9 : decode method_4_code 9 = .ok (.iconst 2, 1) := by decide +kernel
theorem d5_10 : decode method_4_code 10 = .ok (.if_icmp .lt 13, 3) := by decide +kernel
theorem d5_13 : decode method_4_code 13 = .ok (.iload_n 3, 1) := by decide +kernel
theorem d5_14 : decode method_4_code 14 = .ok (.aload_n 0, 1) := by decide +kernel
theorem d5_15 : decode method_4_code 15 = .ok (.iconst 1, 1) := by decide +kernel
theorem d5_16 : decode method_4_code 16 = .ok (.iaload, 1) := by decide +kernel
theorem d5_17 : decode method_4_code 17 = .ok (.iload_n 2, 1) := by decide +kernel
theorem d5_18 : decode method_4_code 18 = .ok (.invokestatic 32, 3) := by decide +kernel
theorem d5_21 : decode method_4_code 21 = .ok (.ior, 1) := by decide +kernel
theorem d5_22 : decode method_4_code 22 = .ok (.istore_n 3, 1) := by decide +kernel
theorem d5_23 : decode method_4_code 23 = .ok (.iload_n 1, 1) := by decide +kernel
theorem d5_24 : decode method_4_code 24 = .ok (.iconst 3, 1) := by decide +kernel
theorem d5_25 : decode method_4_code 25 = .ok (.if_icmp .lt 13, 3) := by decide +kernel
theorem d5_28 : decode method_4_code 28 = .ok (.iload_n 3, 1) := by decide +kernel
theorem d5_29 : decode method_4_code 29 = .ok (.aload_n 0, 1) := by decide +kernel
theorem d5_30 : decode method_4_code 30 = .ok (.iconst 2, 1) := by decide +kernel
theorem d5_31 : decode method_4_code 31 = .ok (.iaload, 1) := by decide +kernel
theorem d5_32 : decode method_4_code 32 = .ok (.iload_n 2, 1) := by decide +kernel
theorem d5_33 : decode method_4_code 33 = .ok (.invokestatic 32, 3) := by decide +kernel
theorem d5_36 : decode method_4_code 36 = .ok (.ior, 1) := by decide +kernel
theorem d5_37 : decode method_4_code 37 = .ok (.istore_n 3, 1) := by decide +kernel
theorem d5_38 : decode method_4_code 38 = .ok (.iload_n 3, 1) := by decide +kernel
theorem d5_39 : decode method_4_code 39 = .ok (.ireturn, 1) := by decide +kernel
theorem ef_51 (m : MethodId) (a0 : Addr) (p2 : Int32) : entryFrame m #[(.ref a0), (.int (1 : Int32)), (.int p2)] 4 = mkF m 0 #[.val (.ref a0), .val (.int (1 : Int32)), .val (.int p2), .unset] [] := by first | (simp [entryFrame, mkF, argsToLocals, Value.category]; done) | rfl
def Q51 (Z : State) (a0 : Addr) (p2 : Int32) (q0 : Int32) (q1 : Int32) (q2 : Int32) (h0 : Heap) (n0 : Nat) (v : Option Value) (h : Heap) (L : List Loc) : Prop := v = some (.int (own_bi q0 p2)) ∧ Fr n0 L ∧ h = h0
theorem pd_0 : parseMethodDescriptor "(II)I" = some ⟨[.int, .int], some .int⟩ := by decide +kernel
set_option maxRecDepth 65536 in
set_option maxHeartbeats 40000000 in
theorem rm51 (l : Launch) (Z : State) (aw : Array Value) (hw : ∀ d ∈ tables_1, d.before aw Z = true) (ws : List Jvm.Cond) (a0 : Addr) (p2 : Int32) (q0 : Int32) (q1 : Int32) (q2 : Int32) (h0 : Heap) (n0 : Nat) (Z0 : n0 ≤ h0.size) (A_a0 : AL Z h0 a0 .int [(.int q0), (.int q1), (.int q2)]) :
    MetFree l (⟨"com/example/crowd_cache/crowdcache/core/BucketToBitmapPinLaw", "expectedAt", "([III)I"⟩ : MethodName) (head1 (Jvm.Cond.code (⟨"com/example/crowd_cache/crowdcache/core/BucketToBitmapPinLaw", "expectedAt", "([III)I"⟩ : MethodName) method_4_code 4 (some .int) :: ws) ({ frames := 1, cells := 0, slots := 0, locals := 13 } : Room)) (fun a U => a = #[(.ref a0), (.int (1 : Int32)), (.int p2)] ∧ Z.Warmed39 U.vm ∧ U.heap = h0) (fun _ _ _ _ _ => True) (fun _ U o U' => ∃ v L, o = .returned v ∧ Q51 Z a0 p2 q0 q1 q2 h0 n0 v U'.heap L ∧ FrameEnd U o U' L ({ frames := 1, cells := 0, slots := 0, locals := 13 } : Room).cells ({ frames := 1, cells := 0, slots := 0, locals := 13 } : Room).slots) := by
  refine MetFree.of_bodySF (plainFor_of_name pn_1) hisR ?_
  intro p e s m args below meth c s₁ Bd hml0 hP hK
  obtain ⟨rfl, hZ, hh⟩ := hP
  have hx := Bd.exec
  have hby := Bd.bytes
  have hml : c.maxLocals = 4 := hml0
  have hown : s.vm.findClass "com/example/crowd_cache/crowdcache/core/BucketToBitmapPinLaw" = some m.cls := findClass_of_methodNamed Bd.named
  have hnm := (name_of_methodNamed Bd.named Bd.method).1
  have hlk : meth.locks = false := Bd.notSynchronized
  have X0 : Stand p l e ({ frames := 1, cells := 0, slots := 0, locals := 13 } : Room) s m #[(.ref a0), (.int (1 : Int32)), (.int p2)] below meth c s₁ [] 0 0 := Stand.of_body Bd
  have e0 : s₁.heap = h0 := by rw [← hh, Bd.state]; rfl
  have N0 := Fr.nil n0
  show OwnEnds p.tables e below (OwnQ s ({ frames := 1, cells := 0, slots := 0, locals := 13 } : Room).cells ({ frames := 1, cells := 0, slots := 0, locals := 13 } : Room).slots (Q51 Z a0 p2 q0 q1 q2 h0 n0)) (s₁.setTop (entryFrame m #[(.ref a0), (.int (1 : Int32)), (.int p2)] 4))
  refine own_via (fun t k => castTop (ef_51 m a0 p2) k) ?_
  show OwnEnds p.tables e below _ (s₁.setTop (mkF m 0 #[.val (.ref a0), .val (.int (1 : Int32)), .val (.int p2), .unset] []))
  refine own_via (fun t k => XS.aloadN X0.here hx rfl (hb hby d5_0) rfl rfl k) ?_
  show OwnEnds p.tables e below _ (s₁.setTop (mkF m 1 #[.val (.ref a0), .val (.int (1 : Int32)), .val (.int p2), .unset] [(.ref a0)]))
  refine own_via (fun t k => XS.iconst X0.here hx rfl (hb hby d5_1) k) ?_
  show OwnEnds p.tables e below _ (s₁.setTop (mkF m 2 #[.val (.ref a0), .val (.int (1 : Int32)), .val (.int p2), .unset] [(.int (0 : Int32)), (.ref a0)]))
  refine own_via (own_ldI X0 hx hZ e0 A_a0 (v := (.int q0)) 0 rfl rfl (g := (mkF m 2 #[.val (.ref a0), .val (.int (1 : Int32)), .val (.int p2), .unset] [(.int (0 : Int32)), (.ref a0)])) rfl rfl (hb hby d5_2)) ?_
  show OwnEnds p.tables e below _ (s₁.setTop (mkF m 3 #[.val (.ref a0), .val (.int (1 : Int32)), .val (.int p2), .unset] [(.int q0)]))
  refine own_via (fun t k => XS.iloadN X0.here hx rfl (hb hby d5_3) rfl k) ?_
  show OwnEnds p.tables e below _ (s₁.setTop (mkF m 4 #[.val (.ref a0), .val (.int (1 : Int32)), .val (.int p2), .unset] [(.int p2), (.int q0)]))
  obtain ⟨_, _, ⟨T1, L1, k1, n1⟩, -, X1, ⟨Lc1, hQ1, l1, y1, z1⟩, st1⟩ := Jvm.LawKit.callS X0 hx (y := (⟨"com/example/crowd_cache/crowdcache/core/BucketToBitmapPinLaw", "bitIn", "(II)I"⟩ : MethodName)) hown (mvT hZ (hw _ (List.mem_of_getElem? (i := 29) rfl))) (mvT hZ (hw _ (List.mem_of_getElem? (i := 30) rfl))) (mvT hZ (hw _ (List.mem_of_getElem? (i := 24) rfl))) (mvT hZ (hw _ (List.mem_of_getElem? (i := 31) rfl))) (by decide) (backOf (W := 0) (rm6 l Z aw hw [] q0 p2 h0 n0 Z0 ) hZ (hw _ (List.mem_of_getElem? (i := 31) rfl)) (hw _ (List.mem_of_getElem? (i := 24) rfl)) (by decide) (by decide)) (g := (mkF m 4 #[.val (.ref a0), .val (.int (1 : Int32)), .val (.int p2), .unset] [(.int p2), (.int q0)])) rfl (by rw [hml]; rfl) (argsL := [(.int q0), (.int p2)]) (rest := []) (lenOf pd_0 rfl) rfl (by show 2 * 0 + _ ≤ _; exact Nat.le_of_eq rfl) (hb hby d5_4) (fun _ _ => ⟨rfl, e0, (by decide : 0 + 0 ≤ _), (by decide : 0 + 0 ≤ _)⟩)
  dsimp only [Pt.U, Pt.locs, Pt.cells, Pt.slots] at X1 l1 y1 z1 st1 hQ1
  subst l1 y1 z1
  obtain ⟨rfl, Nq1, e1⟩ := hQ1
  have N1 := Fr.app N0 Nq1
  replace e1 : T1.heap = h0 := e1
  refine own_via st1 ?_
  show OwnEnds p.tables e below _ (T1.setTop (mkF m 7 #[.val (.ref a0), .val (.int (1 : Int32)), .val (.int p2), .unset] [(.int (own_bi q0 p2))]))
  refine own_via (fun t k => XS.istoreN X1.here hx rfl (hb hby d5_7) rfl (l' := #[.val (.ref a0), .val (.int (1 : Int32)), .val (.int p2), .val (.int (own_bi q0 p2))]) rfl k) ?_
  show OwnEnds p.tables e below _ (T1.setTop (mkF m 8 #[.val (.ref a0), .val (.int (1 : Int32)), .val (.int p2), .val (.int (own_bi q0 p2))] []))
  refine own_via (fun t k => XS.iloadN X1.here hx rfl (hb hby d5_8) rfl k) ?_
  show OwnEnds p.tables e below _ (T1.setTop (mkF m 9 #[.val (.ref a0), .val (.int (1 : Int32)), .val (.int p2), .val (.int (own_bi q0 p2))] [(.int (1 : Int32))]))
  refine own_via (fun t k => XS.iconst X1.here hx rfl (hb hby d5_9) k) ?_
  show OwnEnds p.tables e below _ (T1.setTop (mkF m 10 #[.val (.ref a0), .val (.int (1 : Int32)), .val (.int p2), .val (.int (own_bi q0 p2))] [(.int (2 : Int32)), (.int (1 : Int32))]))
  have hc10_2 : (1 : Int32) < (2 : Int32) := by decide
  refine own_via (fun t k => XS.icmpYes X1.here hx rfl (pc0 := 10) (pc' := 23) rfl (hb hby d5_10) rfl (tlt hc10_2).1 (by decide) (by decide) k) ?_
  show OwnEnds p.tables e below _ (T1.setTop (mkF m 23 #[.val (.ref a0), .val (.int (1 : Int32)), .val (.int p2), .val (.int (own_bi q0 p2))] []))
  refine own_via (fun t k => XS.iloadN X1.here hx rfl (hb hby d5_23) rfl k) ?_
  show OwnEnds p.tables e below _ (T1.setTop (mkF m 24 #[.val (.ref a0), .val (.int (1 : Int32)), .val (.int p2), .val (.int (own_bi q0 p2))] [(.int (1 : Int32))]))
  refine own_via (fun t k => XS.iconst X1.here hx rfl (hb hby d5_24) k) ?_
  show OwnEnds p.tables e below _ (T1.setTop (mkF m 25 #[.val (.ref a0), .val (.int (1 : Int32)), .val (.int p2), .val (.int (own_bi q0 p2))] [(.int (3 : Int32)), (.int (1 : Int32))]))
  have hc25_3 : (1 : Int32) < (3 : Int32) := by decide
  refine own_via (fun t k => XS.icmpYes X1.here hx rfl (pc0 := 25) (pc' := 38) rfl (hb hby d5_25) rfl (tlt hc25_3).1 (by decide) (by decide) k) ?_
  show OwnEnds p.tables e below _ (T1.setTop (mkF m 38 #[.val (.ref a0), .val (.int (1 : Int32)), .val (.int p2), .val (.int (own_bi q0 p2))] []))
  refine own_via (fun t k => XS.iloadN X1.here hx rfl (hb hby d5_38) rfl k) ?_
  show OwnEnds p.tables e below _ (T1.setTop (mkF m 39 #[.val (.ref a0), .val (.int (1 : Int32)), .val (.int p2), .val (.int (own_bi q0 p2))] [(.int (own_bi q0 p2))]))
  refine own_retI X1 hx Bd.returns hlk (hb hby d5_39) ?_ (by decide) (by decide)
  rw [e1]
  exact ⟨rfl, N1, rfl⟩
theorem d4_0 : decode method_3_code 0 = .ok (.aload_n 0, 1) := by decide +kernel
theorem d4_1 : decode method_3_code 1 = .ok (.iload_n 3, 1) := by decide +kernel
theorem d4_2 : decode method_3_code 2 = .ok (.baload, 1) := by decide +kernel
theorem d4_3 : decode method_3_code 3 = .ok (.aload_n 1, 1) := by decide +kernel
theorem d4_4 : decode method_3_code 4 = .ok (.iload_n 2, 1) := by decide +kernel
theorem d4_5 : decode method_3_code 5 = .ok (.iload_n 3, 1) := by decide +kernel
theorem d4_6 : decode method_3_code 6 = .ok (.invokestatic 28, 3) := by decide +kernel
theorem d4_9 : decode method_3_code 9 = .ok (.i2b, 1) := by decide +kernel
theorem d4_10 : decode method_3_code 10 = .ok (.if_icmp .ne 7, 3) := by decide +kernel
theorem d4_13 : decode method_3_code 13 = .ok (.iconst 1, 1) := by decide +kernel
theorem d4_14 : decode method_3_code 14 = .ok (.goto 4, 3) := by decide +kernel
theorem d4_17 : decode method_3_code 17 = .ok (.iconst 0, 1) := by decide +kernel
theorem d4_18 : decode method_3_code 18 = .ok (.ireturn, 1) := by decide +kernel
theorem ef_41 (m : MethodId) (a0 : Addr) (a1 : Addr) (p3 : Int32) : entryFrame m #[(.ref a0), (.ref a1), (.int (1 : Int32)), (.int p3)] 4 = mkF m 0 #[.val (.ref a0), .val (.ref a1), .val (.int (1 : Int32)), .val (.int p3)] [] := by first | (simp [entryFrame, mkF, argsToLocals, Value.category]; done) | rfl
def Q41 (Z : State) (a0 : Addr) (a1 : Addr) (p3 : Int32) (q0 : Int32) (q1 : Int32) (q2 : Int32) (NN : Nat) (jn : Nat) (h0 : Heap) (n0 : Nat) (v : Option Value) (h : Heap) (L : List Loc) : Prop := v = some (.int 1) ∧ Fr n0 L ∧ h = h0
theorem pd_1 : parseMethodDescriptor "([III)I" = some ⟨[(.array .int), .int, .int], some .int⟩ := by decide +kernel
set_option maxRecDepth 65536 in
set_option maxHeartbeats 40000000 in
theorem rm41 (l : Launch) (Z : State) (aw : Array Value) (hw : ∀ d ∈ tables_1, d.before aw Z = true) (ws : List Jvm.Cond) (a0 : Addr) (a1 : Addr) (p3 : Int32) (q0 : Int32) (q1 : Int32) (q2 : Int32) (NN : Nat) (jn : Nat) (h0 : Heap) (n0 : Nat) (Z0 : n0 ≤ h0.size) (A_a0 : AL Z h0 a0 .byte (own_bl NN [q0])) (A_a1 : AL Z h0 a1 .int [(.int q0), (.int q1), (.int q2)]) (hjn : p3.toInt = jn) (hlt : jn < NN) (hq0 : 0 ≤ q0.toInt ∧ q0.toInt ≤ 65535) :
    MetFree l (⟨"com/example/crowd_cache/crowdcache/core/BucketToBitmapPinLaw", "checkAt", "([B[III)Z"⟩ : MethodName) (head1 (Jvm.Cond.code (⟨"com/example/crowd_cache/crowdcache/core/BucketToBitmapPinLaw", "checkAt", "([B[III)Z"⟩ : MethodName) method_3_code 4 (some .boolean) :: ws) ({ frames := 2, cells := 0, slots := 0, locals := 29 } : Room)) (fun a U => a = #[(.ref a0), (.ref a1), (.int (1 : Int32)), (.int p3)] ∧ Z.Warmed39 U.vm ∧ U.heap = h0) (fun _ _ _ _ _ => True) (fun _ U o U' => ∃ v L, o = .returned v ∧ Q41 Z a0 a1 p3 q0 q1 q2 NN jn h0 n0 v U'.heap L ∧ FrameEnd U o U' L ({ frames := 2, cells := 0, slots := 0, locals := 29 } : Room).cells ({ frames := 2, cells := 0, slots := 0, locals := 29 } : Room).slots) := by
  refine MetFree.of_bodySF (plainFor_of_name pn_1) hisR ?_
  intro p e s m args below meth c s₁ Bd hml0 hP hK
  obtain ⟨rfl, hZ, hh⟩ := hP
  have hx := Bd.exec
  have hby := Bd.bytes
  have hml : c.maxLocals = 4 := hml0
  have hown : s.vm.findClass "com/example/crowd_cache/crowdcache/core/BucketToBitmapPinLaw" = some m.cls := findClass_of_methodNamed Bd.named
  have hnm := (name_of_methodNamed Bd.named Bd.method).1
  have hlk : meth.locks = false := Bd.notSynchronized
  have X0 : Stand p l e ({ frames := 2, cells := 0, slots := 0, locals := 29 } : Room) s m #[(.ref a0), (.ref a1), (.int (1 : Int32)), (.int p3)] below meth c s₁ [] 0 0 := Stand.of_body Bd
  have e0 : s₁.heap = h0 := by rw [← hh, Bd.state]; rfl
  have N0 := Fr.nil n0
  show OwnEnds p.tables e below (OwnQ s ({ frames := 2, cells := 0, slots := 0, locals := 29 } : Room).cells ({ frames := 2, cells := 0, slots := 0, locals := 29 } : Room).slots (Q41 Z a0 a1 p3 q0 q1 q2 NN jn h0 n0)) (s₁.setTop (entryFrame m #[(.ref a0), (.ref a1), (.int (1 : Int32)), (.int p3)] 4))
  refine own_via (fun t k => castTop (ef_41 m a0 a1 p3) k) ?_
  show OwnEnds p.tables e below _ (s₁.setTop (mkF m 0 #[.val (.ref a0), .val (.ref a1), .val (.int (1 : Int32)), .val (.int p3)] []))
  refine own_via (fun t k => XS.aloadN X0.here hx rfl (hb hby d4_0) rfl rfl k) ?_
  show OwnEnds p.tables e below _ (s₁.setTop (mkF m 1 #[.val (.ref a0), .val (.ref a1), .val (.int (1 : Int32)), .val (.int p3)] [(.ref a0)]))
  refine own_via (fun t k => XS.iloadN X0.here hx rfl (hb hby d4_1) rfl k) ?_
  show OwnEnds p.tables e below _ (s₁.setTop (mkF m 2 #[.val (.ref a0), .val (.ref a1), .val (.int (1 : Int32)), .val (.int p3)] [(.int p3), (.ref a0)]))
  refine own_via (own_ldB X0 hx hZ e0 A_a0 (v := (.int (own_g [q0] jn))) jn hjn (own_bat _ hlt) (g := (mkF m 2 #[.val (.ref a0), .val (.ref a1), .val (.int (1 : Int32)), .val (.int p3)] [(.int p3), (.ref a0)])) rfl rfl (hb hby d4_2)) ?_
  show OwnEnds p.tables e below _ (s₁.setTop (mkF m 3 #[.val (.ref a0), .val (.ref a1), .val (.int (1 : Int32)), .val (.int p3)] [(.int (own_g [q0] jn))]))
  refine own_via (fun t k => XS.aloadN X0.here hx rfl (hb hby d4_3) rfl rfl k) ?_
  show OwnEnds p.tables e below _ (s₁.setTop (mkF m 4 #[.val (.ref a0), .val (.ref a1), .val (.int (1 : Int32)), .val (.int p3)] [(.ref a1), (.int (own_g [q0] jn))]))
  refine own_via (fun t k => XS.iloadN X0.here hx rfl (hb hby d4_4) rfl k) ?_
  show OwnEnds p.tables e below _ (s₁.setTop (mkF m 5 #[.val (.ref a0), .val (.ref a1), .val (.int (1 : Int32)), .val (.int p3)] [(.int (1 : Int32)), (.ref a1), (.int (own_g [q0] jn))]))
  refine own_via (fun t k => XS.iloadN X0.here hx rfl (hb hby d4_5) rfl k) ?_
  show OwnEnds p.tables e below _ (s₁.setTop (mkF m 6 #[.val (.ref a0), .val (.ref a1), .val (.int (1 : Int32)), .val (.int p3)] [(.int p3), (.int (1 : Int32)), (.ref a1), (.int (own_g [q0] jn))]))
  obtain ⟨_, _, ⟨T1, L1, k1, n1⟩, -, X1, ⟨Lc1, hQ1, l1, y1, z1⟩, st1⟩ := Jvm.LawKit.callS X0 hx (y := (⟨"com/example/crowd_cache/crowdcache/core/BucketToBitmapPinLaw", "expectedAt", "([III)I"⟩ : MethodName)) hown (mvT hZ (hw _ (List.mem_of_getElem? (i := 26) rfl))) (mvT hZ (hw _ (List.mem_of_getElem? (i := 27) rfl))) (mvT hZ (hw _ (List.mem_of_getElem? (i := 24) rfl))) (mvT hZ (hw _ (List.mem_of_getElem? (i := 28) rfl))) (by decide) (backOf (W := 1) (rm51 l Z aw hw [] a1 p3 q0 q1 q2 h0 n0 Z0 A_a1) hZ (hw _ (List.mem_of_getElem? (i := 28) rfl)) (hw _ (List.mem_of_getElem? (i := 24) rfl)) (by decide) (by decide)) (g := (mkF m 6 #[.val (.ref a0), .val (.ref a1), .val (.int (1 : Int32)), .val (.int p3)] [(.int p3), (.int (1 : Int32)), (.ref a1), (.int (own_g [q0] jn))])) rfl (by rw [hml]; rfl) (argsL := [(.ref a1), (.int (1 : Int32)), (.int p3)]) (rest := [(.int (own_g [q0] jn))]) (lenOf pd_1 rfl) rfl (by show 2 * 0 + _ ≤ _; exact Nat.le_of_eq rfl) (hb hby d4_6) (fun _ _ => ⟨rfl, e0, (by decide : 0 + 0 ≤ _), (by decide : 0 + 0 ≤ _)⟩)
  dsimp only [Pt.U, Pt.locs, Pt.cells, Pt.slots] at X1 l1 y1 z1 st1 hQ1
  subst l1 y1 z1
  obtain ⟨rfl, Nq1, e1⟩ := hQ1
  have N1 := Fr.app N0 Nq1
  replace e1 : T1.heap = h0 := e1
  refine own_via st1 ?_
  show OwnEnds p.tables e below _ (T1.setTop (mkF m 9 #[.val (.ref a0), .val (.ref a1), .val (.int (1 : Int32)), .val (.int p3)] [(.int (own_bi q0 p3)), (.int (own_g [q0] jn))]))
  refine own_via (fun t k => XS.i2b X1.here hx rfl (hb hby d4_9) rfl k) ?_
  show OwnEnds p.tables e below _ (T1.setTop (mkF m 10 #[.val (.ref a0), .val (.ref a1), .val (.int (1 : Int32)), .val (.int p3)] [(.int ((own_bi q0 p3).toInt8.toInt32)), (.int (own_g [q0] jn))]))
  have hc10_2 : (own_g [q0] jn) = ((own_bi q0 p3).toInt8.toInt32) := own_ck1 hq0 hjn
  refine own_via (fun t k => XS.icmpNo X1.here hx rfl (hb hby d4_10) rfl (teq hc10_2).2 k) ?_
  show OwnEnds p.tables e below _ (T1.setTop (mkF m 13 #[.val (.ref a0), .val (.ref a1), .val (.int (1 : Int32)), .val (.int p3)] []))
  refine own_via (fun t k => XS.iconst X1.here hx rfl (hb hby d4_13) k) ?_
  show OwnEnds p.tables e below _ (T1.setTop (mkF m 14 #[.val (.ref a0), .val (.ref a1), .val (.int (1 : Int32)), .val (.int p3)] [(.int (1 : Int32))]))
  refine own_via (fun t k => XS.goto X1.here hx rfl (pc0 := 14) (pc' := 18) rfl (hb hby d4_14) (by decide) (by decide) k) ?_
  show OwnEnds p.tables e below _ (T1.setTop (mkF m 18 #[.val (.ref a0), .val (.ref a1), .val (.int (1 : Int32)), .val (.int p3)] [(.int (1 : Int32))]))
  refine own_retN (t := .boolean) X1 hx Bd.returns (by simp) hlk (hb hby d4_18) ?_ (by decide) (by decide)
  rw [e1]
  exact ⟨rfl, N1, rfl⟩
theorem ef_32 (m : MethodId) (a0 : Addr) : entryFrame m #[(.ref a0)] 6 = mkF m 0 #[.val (.ref a0), .unset, .unset, .unset, .unset, .unset] [] := by first | (simp [entryFrame, mkF, argsToLocals, Value.category]; done) | rfl
def Q32 (Z : State) (a0 : Addr) (pos : Addr) (q0 : Int32) (q1 : Int32) (h0 : Heap) (n0 : Nat) (v : Option Value) (h : Heap) (L : List Loc) : Prop := ∃ b : Addr, v = some (.ref b) ∧ Fr n0 L ∧ Keep h0 h [] ∧ h0.size ≤ b ∧ AL Z h b .byte (own_bl ((q1 / 8).toNatClampNeg + 1) [q0, q1])
set_option maxRecDepth 65536 in
set_option maxHeartbeats 40000000 in
theorem rm32 (l : Launch) (Z : State) (aw : Array Value) (hw : ∀ d ∈ tables_1, d.before aw Z = true) (ws : List Jvm.Cond) (a0 : Addr) (pos : Addr) (q0 : Int32) (q1 : Int32) (h0 : Heap) (n0 : Nat) (Z0 : n0 ≤ h0.size) (E_a0 : Exa Z h0 a0 "com/example/crowd_cache/crowdcache/core/Bucket") (F_pos : Fld Z h0 a0 "com/example/crowd_cache/crowdcache/core/Bucket" "positions" "[I" (.ref pos)) (A_pos : AL Z h0 pos .int [(.int q0), (.int q1)]) (hq0 : 0 ≤ q0.toInt ∧ q0.toInt ≤ 65535) (hq1 : 0 ≤ q1.toInt ∧ q1.toInt ≤ 65535) (hle_q0 : q0.toInt ≤ q1.toInt) (hle_q1 : q1.toInt ≤ q1.toInt) :
    MetFree l (⟨"com/example/crowd_cache/crowdcache/core/Bucket", "toBitmap", "()[B"⟩ : MethodName) (head1 (Jvm.Cond.code (⟨"com/example/crowd_cache/crowdcache/core/Bucket", "toBitmap", "()[B"⟩ : MethodName) prog_1_method_7_code 6 (some (.array .byte)) :: ws) ({ frames := 0, cells := 1, slots := 8192, locals := 0 } : Room)) (fun a U => a = #[(.ref a0)] ∧ Z.Warmed39 U.vm ∧ U.heap = h0) (fun _ _ _ _ _ => True) (fun _ U o U' => ∃ v L, o = .returned v ∧ Q32 Z a0 pos q0 q1 h0 n0 v U'.heap L ∧ FrameEnd U o U' L ({ frames := 0, cells := 1, slots := 8192, locals := 0 } : Room).cells ({ frames := 0, cells := 1, slots := 8192, locals := 0 } : Room).slots) := by
  refine MetFree.of_bodySF (plainFor_of_name pn_0) hisR ?_
  intro p e s m args below meth c s₁ Bd hml0 hP hK
  obtain ⟨rfl, hZ, hh⟩ := hP
  have hx := Bd.exec
  have hby := Bd.bytes
  have hml : c.maxLocals = 6 := hml0
  have hown : s.vm.findClass "com/example/crowd_cache/crowdcache/core/Bucket" = some m.cls := findClass_of_methodNamed Bd.named
  have hnm := (name_of_methodNamed Bd.named Bd.method).1
  have hlk : meth.locks = false := Bd.notSynchronized
  have X0 : Stand p l e ({ frames := 0, cells := 1, slots := 8192, locals := 0 } : Room) s m #[(.ref a0)] below meth c s₁ [] 0 0 := Stand.of_body Bd
  have e0 : s₁.heap = h0 := by rw [← hh, Bd.state]; rfl
  have N0 := Fr.nil n0
  show OwnEnds p.tables e below (OwnQ s ({ frames := 0, cells := 1, slots := 8192, locals := 0 } : Room).cells ({ frames := 0, cells := 1, slots := 8192, locals := 0 } : Room).slots (Q32 Z a0 pos q0 q1 h0 n0)) (s₁.setTop (entryFrame m #[(.ref a0)] 6))
  refine own_via (fun t k => castTop (ef_32 m a0) k) ?_
  show OwnEnds p.tables e below _ (s₁.setTop (mkF m 0 #[.val (.ref a0), .unset, .unset, .unset, .unset, .unset] []))
  have K0 : Keep h0 h0 [] := Keep.refl _ _
  refine own_via (fun t k => XS.aloadN X0.here hx rfl (hb hby d3_0) rfl rfl k) ?_
  show OwnEnds p.tables e below _ (s₁.setTop (mkF m 1 #[.val (.ref a0), .unset, .unset, .unset, .unset, .unset] [(.ref a0)]))
  obtain ⟨T1, X1, e1, st1⟩ := getF X0 hx hZ hown (host := "") (Or.inl (hw _ (List.mem_of_getElem? (i := 14) rfl))) Via.refl e0 F_pos (g := (mkF m 1 #[.val (.ref a0), .unset, .unset, .unset, .unset, .unset] [(.ref a0)])) rfl rfl (hb hby d3_1)
  refine own_via st1 ?_
  show OwnEnds p.tables e below _ (T1.setTop (mkF m 4 #[.val (.ref a0), .unset, .unset, .unset, .unset, .unset] [(.ref pos)]))
  refine own_via (fun t k => XS.aloadN X1.here hx rfl (hb hby d3_4) rfl rfl k) ?_
  show OwnEnds p.tables e below _ (T1.setTop (mkF m 5 #[.val (.ref a0), .unset, .unset, .unset, .unset, .unset] [(.ref a0), (.ref pos)]))
  obtain ⟨T2, X2, e2, st2⟩ := getF X1 hx hZ hown (host := "") (Or.inl (hw _ (List.mem_of_getElem? (i := 14) rfl))) Via.refl e1 F_pos (g := (mkF m 5 #[.val (.ref a0), .unset, .unset, .unset, .unset, .unset] [(.ref a0), (.ref pos)])) rfl rfl (hb hby d3_5)
  refine own_via st2 ?_
  show OwnEnds p.tables e below _ (T2.setTop (mkF m 8 #[.val (.ref a0), .unset, .unset, .unset, .unset, .unset] [(.ref pos), (.ref pos)]))
  refine own_via (own_len X2 hx hZ e2 A_pos (z := (2 : Int32)) rfl (g := (mkF m 8 #[.val (.ref a0), .unset, .unset, .unset, .unset, .unset] [(.ref pos), (.ref pos)])) rfl rfl (hb hby d3_8)) ?_
  show OwnEnds p.tables e below _ (T2.setTop (mkF m 9 #[.val (.ref a0), .unset, .unset, .unset, .unset, .unset] [(.int (2 : Int32)), (.ref pos)]))
  refine own_via (fun t k => XS.iconst X2.here hx rfl (hb hby d3_9) k) ?_
  show OwnEnds p.tables e below _ (T2.setTop (mkF m 10 #[.val (.ref a0), .unset, .unset, .unset, .unset, .unset] [(.int (1 : Int32)), (.int (2 : Int32)), (.ref pos)]))
  refine own_via (fun t k => XS.isub X2.here hx rfl (hb hby d3_10) rfl k) ?_
  show OwnEnds p.tables e below _ (T2.setTop (mkF m 11 #[.val (.ref a0), .unset, .unset, .unset, .unset, .unset] [(.int (1 : Int32)), (.ref pos)]))
  refine own_via (own_ldI X2 hx hZ e2 A_pos (v := (.int q1)) 1 rfl rfl (g := (mkF m 11 #[.val (.ref a0), .unset, .unset, .unset, .unset, .unset] [(.int (1 : Int32)), (.ref pos)])) rfl rfl (hb hby d3_11)) ?_
  show OwnEnds p.tables e below _ (T2.setTop (mkF m 12 #[.val (.ref a0), .unset, .unset, .unset, .unset, .unset] [(.int q1)]))
  refine own_via (fun t k => XS.bipush X2.here hx rfl (hb hby d3_12) k) ?_
  show OwnEnds p.tables e below _ (T2.setTop (mkF m 14 #[.val (.ref a0), .unset, .unset, .unset, .unset, .unset] [(.int (8 : Int32)), (.int q1)]))
  refine own_via (fun t k => XS.idiv X2.here hx rfl (hb hby d3_14) rfl (by decide) k) ?_
  show OwnEnds p.tables e below _ (T2.setTop (mkF m 15 #[.val (.ref a0), .unset, .unset, .unset, .unset, .unset] [(.int (q1 / (8 : Int32)))]))
  refine own_via (fun t k => XS.iconst X2.here hx rfl (hb hby d3_15) k) ?_
  show OwnEnds p.tables e below _ (T2.setTop (mkF m 16 #[.val (.ref a0), .unset, .unset, .unset, .unset, .unset] [(.int (1 : Int32)), (.int (q1 / (8 : Int32)))]))
  refine own_via (fun t k => XS.iadd X2.here hx rfl (hb hby d3_16) rfl k) ?_
  show OwnEnds p.tables e below _ (T2.setTop (mkF m 17 #[.val (.ref a0), .unset, .unset, .unset, .unset, .unset] [(.int ((q1 / (8 : Int32)) + (1 : Int32)))]))
  obtain ⟨T3, h3, k3, X3, e3, E3, A3, st3⟩ := newP X2 hx hZ (hw _ (List.mem_of_getElem? (i := 21) rfl)) e2 (g := (mkF m 17 #[.val (.ref a0), .unset, .unset, .unset, .unset, .unset] [(.int ((q1 / (8 : Int32)) + (1 : Int32)))])) rfl (hb hby d3_17) rfl (own_neg hq1) (cap := 8192) (by rw [own_clamp hq1]; exact (own_tl hq1).2) (by decide) (by decide) (by decide)
  obtain ⟨b3, g3⟩ : ∃ z, z = h0.size := ⟨_, rfl⟩
  rw [← g3] at A3 st3
  have ne_a0_b3 : a0 ≠ b3 := Nat.ne_of_lt (Nat.lt_of_lt_of_le E_a0.lt (Nat.le_of_eq g3.symm))
  have ne_pos_b3 : pos ≠ b3 := Nat.ne_of_lt (Nat.lt_of_lt_of_le A_pos.lt (Nat.le_of_eq g3.symm))
  have g_b3 : n0 ≤ b3 := Nat.le_trans Z0 (Nat.le_of_eq g3.symm)
  have sz_b3 : h0.size ≤ b3 := Nat.le_trans K0.1 (Nat.le_of_eq g3.symm)
  have Zs_3 : n0 ≤ _ := Nat.le_trans Z0 E3.1
  replace E_a0 := E_a0.ext E3
  replace F_pos := F_pos.ext E3
  replace A_pos := A_pos.ext E3
  replace K0 := K0.ext E3
  have A_b3 : AL Z h3 b3 .byte (List.replicate ((q1 / 8).toNatClampNeg + 1) (.int (0 : Int32))) := AL.new A3 (own_neg hq1) (i := ((q1 / 8).toNatClampNeg + 1)) (own_clamp hq1)
  refine own_via st3 ?_
  show OwnEnds p.tables e below _ (T3.setTop (mkF m 19 #[.val (.ref a0), .unset, .unset, .unset, .unset, .unset] [(.ref b3)]))
  rw [own_bl0] at A_b3
  refine own_via (fun t k => XS.astoreN X3.here hx rfl (hb hby d3_19) rfl rfl (l' := #[.val (.ref a0), .val (.ref b3), .unset, .unset, .unset, .unset]) rfl k) ?_
  show OwnEnds p.tables e below _ (T3.setTop (mkF m 20 #[.val (.ref a0), .val (.ref b3), .unset, .unset, .unset, .unset] []))
  refine own_via (fun t k => XS.aloadN X3.here hx rfl (hb hby d3_20) rfl rfl k) ?_
  show OwnEnds p.tables e below _ (T3.setTop (mkF m 21 #[.val (.ref a0), .val (.ref b3), .unset, .unset, .unset, .unset] [(.ref a0)]))
  obtain ⟨T4, X4, e4, st4⟩ := getF X3 hx hZ hown (host := "") (Or.inl (hw _ (List.mem_of_getElem? (i := 14) rfl))) Via.refl e3 F_pos (g := (mkF m 21 #[.val (.ref a0), .val (.ref b3), .unset, .unset, .unset, .unset] [(.ref a0)])) rfl rfl (hb hby d3_21)
  refine own_via st4 ?_
  show OwnEnds p.tables e below _ (T4.setTop (mkF m 24 #[.val (.ref a0), .val (.ref b3), .unset, .unset, .unset, .unset] [(.ref pos)]))
  refine own_via (fun t k => XS.astoreN X4.here hx rfl (hb hby d3_24) rfl rfl (l' := #[.val (.ref a0), .val (.ref b3), .val (.ref pos), .unset, .unset, .unset]) rfl k) ?_
  show OwnEnds p.tables e below _ (T4.setTop (mkF m 25 #[.val (.ref a0), .val (.ref b3), .val (.ref pos), .unset, .unset, .unset] []))
  refine own_via (fun t k => XS.aloadN X4.here hx rfl (hb hby d3_25) rfl rfl k) ?_
  show OwnEnds p.tables e below _ (T4.setTop (mkF m 26 #[.val (.ref a0), .val (.ref b3), .val (.ref pos), .unset, .unset, .unset] [(.ref pos)]))
  refine own_via (own_len X4 hx hZ e4 A_pos (z := (2 : Int32)) rfl (g := (mkF m 26 #[.val (.ref a0), .val (.ref b3), .val (.ref pos), .unset, .unset, .unset] [(.ref pos)])) rfl rfl (hb hby d3_26)) ?_
  show OwnEnds p.tables e below _ (T4.setTop (mkF m 27 #[.val (.ref a0), .val (.ref b3), .val (.ref pos), .unset, .unset, .unset] [(.int (2 : Int32))]))
  refine own_via (fun t k => XS.istoreN X4.here hx rfl (hb hby d3_27) rfl (l' := #[.val (.ref a0), .val (.ref b3), .val (.ref pos), .val (.int (2 : Int32)), .unset, .unset]) rfl k) ?_
  show OwnEnds p.tables e below _ (T4.setTop (mkF m 28 #[.val (.ref a0), .val (.ref b3), .val (.ref pos), .val (.int (2 : Int32)), .unset, .unset] []))
  refine own_via (fun t k => XS.iconst X4.here hx rfl (hb hby d3_28) k) ?_
  show OwnEnds p.tables e below _ (T4.setTop (mkF m 29 #[.val (.ref a0), .val (.ref b3), .val (.ref pos), .val (.int (2 : Int32)), .unset, .unset] [(.int (0 : Int32))]))
  refine own_via (fun t k => XS.istore X4.here hx rfl (hb hby d3_29) rfl (l' := #[.val (.ref a0), .val (.ref b3), .val (.ref pos), .val (.int (2 : Int32)), .val (.int (0 : Int32)), .unset]) rfl k) ?_
  show OwnEnds p.tables e below _ (T4.setTop (mkF m 31 #[.val (.ref a0), .val (.ref b3), .val (.ref pos), .val (.int (2 : Int32)), .val (.int (0 : Int32)), .unset] []))
  refine own_via (fun t k => XS.iload X4.here hx rfl (hb hby d3_31) rfl k) ?_
  show OwnEnds p.tables e below _ (T4.setTop (mkF m 33 #[.val (.ref a0), .val (.ref b3), .val (.ref pos), .val (.int (2 : Int32)), .val (.int (0 : Int32)), .unset] [(.int (0 : Int32))]))
  refine own_via (fun t k => XS.iloadN X4.here hx rfl (hb hby d3_33) rfl k) ?_
  show OwnEnds p.tables e below _ (T4.setTop (mkF m 34 #[.val (.ref a0), .val (.ref b3), .val (.ref pos), .val (.int (2 : Int32)), .val (.int (0 : Int32)), .unset] [(.int (2 : Int32)), (.int (0 : Int32))]))
  have hc34_5 : (0 : Int32) < (2 : Int32) := by decide
  refine own_via (fun t k => XS.icmpNo X4.here hx rfl (hb hby d3_34) rfl (tlt hc34_5).2.1 k) ?_
  show OwnEnds p.tables e below _ (T4.setTop (mkF m 37 #[.val (.ref a0), .val (.ref b3), .val (.ref pos), .val (.int (2 : Int32)), .val (.int (0 : Int32)), .unset] []))
  refine own_via (fun t k => XS.aloadN X4.here hx rfl (hb hby d3_37) rfl rfl k) ?_
  show OwnEnds p.tables e below _ (T4.setTop (mkF m 38 #[.val (.ref a0), .val (.ref b3), .val (.ref pos), .val (.int (2 : Int32)), .val (.int (0 : Int32)), .unset] [(.ref pos)]))
  refine own_via (fun t k => XS.iload X4.here hx rfl (hb hby d3_38) rfl k) ?_
  show OwnEnds p.tables e below _ (T4.setTop (mkF m 40 #[.val (.ref a0), .val (.ref b3), .val (.ref pos), .val (.int (2 : Int32)), .val (.int (0 : Int32)), .unset] [(.int (0 : Int32)), (.ref pos)]))
  refine own_via (own_ldI X4 hx hZ e4 A_pos (v := (.int q0)) 0 rfl rfl (g := (mkF m 40 #[.val (.ref a0), .val (.ref b3), .val (.ref pos), .val (.int (2 : Int32)), .val (.int (0 : Int32)), .unset] [(.int (0 : Int32)), (.ref pos)])) rfl rfl (hb hby d3_40)) ?_
  show OwnEnds p.tables e below _ (T4.setTop (mkF m 41 #[.val (.ref a0), .val (.ref b3), .val (.ref pos), .val (.int (2 : Int32)), .val (.int (0 : Int32)), .unset] [(.int q0)]))
  refine own_via (fun t k => XS.istore X4.here hx rfl (hb hby d3_41) rfl (l' := #[.val (.ref a0), .val (.ref b3), .val (.ref pos), .val (.int (2 : Int32)), .val (.int (0 : Int32)), .val (.int q0)]) rfl k) ?_
  show OwnEnds p.tables e below _ (T4.setTop (mkF m 43 #[.val (.ref a0), .val (.ref b3), .val (.ref pos), .val (.int (2 : Int32)), .val (.int (0 : Int32)), .val (.int q0)] []))
  refine own_via (fun t k => XS.aloadN X4.here hx rfl (hb hby d3_43) rfl rfl k) ?_
  show OwnEnds p.tables e below _ (T4.setTop (mkF m 44 #[.val (.ref a0), .val (.ref b3), .val (.ref pos), .val (.int (2 : Int32)), .val (.int (0 : Int32)), .val (.int q0)] [(.ref b3)]))
  refine own_via (fun t k => XS.iload X4.here hx rfl (hb hby d3_44) rfl k) ?_
  show OwnEnds p.tables e below _ (T4.setTop (mkF m 46 #[.val (.ref a0), .val (.ref b3), .val (.ref pos), .val (.int (2 : Int32)), .val (.int (0 : Int32)), .val (.int q0)] [(.int q0), (.ref b3)]))
  refine own_via (fun t k => XS.bipush X4.here hx rfl (hb hby d3_46) k) ?_
  show OwnEnds p.tables e below _ (T4.setTop (mkF m 48 #[.val (.ref a0), .val (.ref b3), .val (.ref pos), .val (.int (2 : Int32)), .val (.int (0 : Int32)), .val (.int q0)] [(.int (8 : Int32)), (.int q0), (.ref b3)]))
  refine own_via (fun t k => XS.idiv X4.here hx rfl (hb hby d3_48) rfl (by decide) k) ?_
  show OwnEnds p.tables e below _ (T4.setTop (mkF m 49 #[.val (.ref a0), .val (.ref b3), .val (.ref pos), .val (.int (2 : Int32)), .val (.int (0 : Int32)), .val (.int q0)] [(.int (q0 / (8 : Int32))), (.ref b3)]))
  refine own_via (U' := T4.setTop (mkF m 50 #[.val (.ref a0), .val (.ref b3), .val (.ref pos), .val (.int (2 : Int32)), .val (.int (0 : Int32)), .val (.int q0)] [(.int (q0 / (8 : Int32))), (.ref b3), (.int (q0 / (8 : Int32))), (.ref b3)])) (fun t k => ?_) ?_
  · show Steps p.tables e below (T4.setTop (mkF m 49 #[.val (.ref a0), .val (.ref b3), .val (.ref pos), .val (.int (2 : Int32)), .val (.int (0 : Int32)), .val (.int q0)] [(.int (q0 / (8 : Int32))), (.ref b3)])) t
    jvm_step X4.here [X4.here.top, hx, (hb hby d3_49), Value.category]
    exact k
  refine own_via (own_ldB X4 hx hZ e4 A_b3 (v := (.int (own_g [] ((q0 / 8).toNatClampNeg)))) ((q0 / 8).toNatClampNeg) (own_d8 hq0).1 (own_bat [] (by have := own_lt hq0 hq1 hle_q0 []; rwa [own_bll] at this)) (g := (mkF m 50 #[.val (.ref a0), .val (.ref b3), .val (.ref pos), .val (.int (2 : Int32)), .val (.int (0 : Int32)), .val (.int q0)] [(.int (q0 / (8 : Int32))), (.ref b3), (.int (q0 / (8 : Int32))), (.ref b3)])) rfl rfl (hb hby d3_50)) ?_
  show OwnEnds p.tables e below _ (T4.setTop (mkF m 51 #[.val (.ref a0), .val (.ref b3), .val (.ref pos), .val (.int (2 : Int32)), .val (.int (0 : Int32)), .val (.int q0)] [(.int (own_g [] ((q0 / 8).toNatClampNeg))), (.int (q0 / (8 : Int32))), (.ref b3)]))
  refine own_via (fun t k => XS.sipush X4.here hx rfl (hb hby d3_51) k) ?_
  show OwnEnds p.tables e below _ (T4.setTop (mkF m 54 #[.val (.ref a0), .val (.ref b3), .val (.ref pos), .val (.int (2 : Int32)), .val (.int (0 : Int32)), .val (.int q0)] [(.int (128 : Int32)), (.int (own_g [] ((q0 / 8).toNatClampNeg))), (.int (q0 / (8 : Int32))), (.ref b3)]))
  refine own_via (fun t k => XS.iload X4.here hx rfl (hb hby d3_54) rfl k) ?_
  show OwnEnds p.tables e below _ (T4.setTop (mkF m 56 #[.val (.ref a0), .val (.ref b3), .val (.ref pos), .val (.int (2 : Int32)), .val (.int (0 : Int32)), .val (.int q0)] [(.int q0), (.int (128 : Int32)), (.int (own_g [] ((q0 / 8).toNatClampNeg))), (.int (q0 / (8 : Int32))), (.ref b3)]))
  refine own_via (fun t k => XS.bipush X4.here hx rfl (hb hby d3_56) k) ?_
  show OwnEnds p.tables e below _ (T4.setTop (mkF m 58 #[.val (.ref a0), .val (.ref b3), .val (.ref pos), .val (.int (2 : Int32)), .val (.int (0 : Int32)), .val (.int q0)] [(.int (8 : Int32)), (.int q0), (.int (128 : Int32)), (.int (own_g [] ((q0 / 8).toNatClampNeg))), (.int (q0 / (8 : Int32))), (.ref b3)]))
  refine own_via (fun t k => Jvm.RoadKit.iremM X4 hx rfl (hb hby d3_58) rfl (by decide) k) ?_
  show OwnEnds p.tables e below _ (T4.setTop (mkF m 59 #[.val (.ref a0), .val (.ref b3), .val (.ref pos), .val (.int (2 : Int32)), .val (.int (0 : Int32)), .val (.int q0)] [(.int (q0 % (8 : Int32))), (.int (128 : Int32)), (.int (own_g [] ((q0 / 8).toNatClampNeg))), (.int (q0 / (8 : Int32))), (.ref b3)]))
  refine own_via (fun t k => XS.iushr X4.here hx rfl (hb hby d3_59) rfl k) ?_
  show OwnEnds p.tables e below _ (T4.setTop (mkF m 60 #[.val (.ref a0), .val (.ref b3), .val (.ref pos), .val (.int (2 : Int32)), .val (.int (0 : Int32)), .val (.int q0)] [(.int (((128 : Int32).toUInt32 >>> ((q0 % (8 : Int32)) &&& 31).toUInt32).toInt32)), (.int (own_g [] ((q0 / 8).toNatClampNeg))), (.int (q0 / (8 : Int32))), (.ref b3)]))
  refine own_via (fun t k => XS.i2b X4.here hx rfl (hb hby d3_60) rfl k) ?_
  show OwnEnds p.tables e below _ (T4.setTop (mkF m 61 #[.val (.ref a0), .val (.ref b3), .val (.ref pos), .val (.int (2 : Int32)), .val (.int (0 : Int32)), .val (.int q0)] [(.int ((((128 : Int32).toUInt32 >>> ((q0 % (8 : Int32)) &&& 31).toUInt32).toInt32).toInt8.toInt32)), (.int (own_g [] ((q0 / 8).toNatClampNeg))), (.int (q0 / (8 : Int32))), (.ref b3)]))
  refine own_via (fun t k => XS.ior X4.here hx rfl (hb hby d3_61) rfl k) ?_
  show OwnEnds p.tables e below _ (T4.setTop (mkF m 62 #[.val (.ref a0), .val (.ref b3), .val (.ref pos), .val (.int (2 : Int32)), .val (.int (0 : Int32)), .val (.int q0)] [(.int ((own_g [] ((q0 / 8).toNatClampNeg)) ||| ((((128 : Int32).toUInt32 >>> ((q0 % (8 : Int32)) &&& 31).toUInt32).toInt32).toInt8.toInt32))), (.int (q0 / (8 : Int32))), (.ref b3)]))
  refine own_via (fun t k => XS.i2b X4.here hx rfl (hb hby d3_62) rfl k) ?_
  show OwnEnds p.tables e below _ (T4.setTop (mkF m 63 #[.val (.ref a0), .val (.ref b3), .val (.ref pos), .val (.int (2 : Int32)), .val (.int (0 : Int32)), .val (.int q0)] [(.int (((own_g [] ((q0 / 8).toNatClampNeg)) ||| ((((128 : Int32).toUInt32 >>> ((q0 % (8 : Int32)) &&& 31).toUInt32).toInt32).toInt8.toInt32)).toInt8.toInt32)), (.int (q0 / (8 : Int32))), (.ref b3)]))
  obtain ⟨T6, h6, X6, e6, W6, AA6, st6⟩ := own_stB X4 hx hZ e4 A_b3 ((q0 / 8).toNatClampNeg) (own_d8 hq0).1 (own_lt hq0 hq1 hle_q0 _) (g := (mkF m 63 #[.val (.ref a0), .val (.ref b3), .val (.ref pos), .val (.int (2 : Int32)), .val (.int (0 : Int32)), .val (.int q0)] [(.int (((own_g [] ((q0 / 8).toNatClampNeg)) ||| ((((128 : Int32).toUInt32 >>> ((q0 % (8 : Int32)) &&& 31).toUInt32).toInt32).toInt8.toInt32)).toInt8.toInt32)), (.int (q0 / (8 : Int32))), (.ref b3)])) rfl rfl (hb hby d3_63)
  replace E_a0 := E_a0.wr W6
  replace F_pos := F_pos.other W6 (Or.inl ne_a0_b3)
  replace A_pos := A_pos.other W6 ne_pos_b3
  replace K0 := K0.wr W6 (Or.inr sz_b3)
  have Zs_W6 : n0 ≤ _ := Nat.le_trans Zs_3 (Keep.of_wr W6).1
  replace A_b3 : AL Z h6 b3 .byte ((own_bl ((q1 / 8).toNatClampNeg + 1) []).set ((q0 / 8).toNatClampNeg) (.int (nar .byte (((own_g [] ((q0 / 8).toNatClampNeg)) ||| ((((128 : Int32).toUInt32 >>> ((q0 % (8 : Int32)) &&& 31).toUInt32).toInt32).toInt8.toInt32)).toInt8.toInt32)))) := AA6
  have N6 := Fr.snoc X6 N0 g_b3
  refine own_via st6 ?_
  show OwnEnds p.tables e below _ (T6.setTop (mkF m 64 #[.val (.ref a0), .val (.ref b3), .val (.ref pos), .val (.int (2 : Int32)), .val (.int (0 : Int32)), .val (.int q0)] []))
  replace A_b3 : AL Z h6 b3 .byte (own_bl ((q1 / 8).toNatClampNeg + 1) [q0]) := own_cast (own_blset ((q1 / 8).toNatClampNeg + 1) [] q0 _ rfl) A_b3
  refine own_via (fun t k => XS.iinc X6.here hx rfl (hb hby d3_64) rfl (l' := #[.val (.ref a0), .val (.ref b3), .val (.ref pos), .val (.int (2 : Int32)), .val (.int (1 : Int32)), .val (.int q0)]) rfl k) ?_
  show OwnEnds p.tables e below _ (T6.setTop (mkF m 67 #[.val (.ref a0), .val (.ref b3), .val (.ref pos), .val (.int (2 : Int32)), .val (.int (1 : Int32)), .val (.int q0)] []))
  refine own_via (fun t k => XS.goto X6.here hx rfl (pc0 := 67) (pc' := 31) rfl (hb hby d3_67) (by decide) (by decide) k) ?_
  show OwnEnds p.tables e below _ (T6.setTop (mkF m 31 #[.val (.ref a0), .val (.ref b3), .val (.ref pos), .val (.int (2 : Int32)), .val (.int (1 : Int32)), .val (.int q0)] []))
  refine own_via (fun t k => XS.iload X6.here hx rfl (hb hby d3_31) rfl k) ?_
  show OwnEnds p.tables e below _ (T6.setTop (mkF m 33 #[.val (.ref a0), .val (.ref b3), .val (.ref pos), .val (.int (2 : Int32)), .val (.int (1 : Int32)), .val (.int q0)] [(.int (1 : Int32))]))
  refine own_via (fun t k => XS.iloadN X6.here hx rfl (hb hby d3_33) rfl k) ?_
  show OwnEnds p.tables e below _ (T6.setTop (mkF m 34 #[.val (.ref a0), .val (.ref b3), .val (.ref pos), .val (.int (2 : Int32)), .val (.int (1 : Int32)), .val (.int q0)] [(.int (2 : Int32)), (.int (1 : Int32))]))
  have hc34_7 : (1 : Int32) < (2 : Int32) := by decide
  refine own_via (fun t k => XS.icmpNo X6.here hx rfl (hb hby d3_34) rfl (tlt hc34_7).2.1 k) ?_
  show OwnEnds p.tables e below _ (T6.setTop (mkF m 37 #[.val (.ref a0), .val (.ref b3), .val (.ref pos), .val (.int (2 : Int32)), .val (.int (1 : Int32)), .val (.int q0)] []))
  refine own_via (fun t k => XS.aloadN X6.here hx rfl (hb hby d3_37) rfl rfl k) ?_
  show OwnEnds p.tables e below _ (T6.setTop (mkF m 38 #[.val (.ref a0), .val (.ref b3), .val (.ref pos), .val (.int (2 : Int32)), .val (.int (1 : Int32)), .val (.int q0)] [(.ref pos)]))
  refine own_via (fun t k => XS.iload X6.here hx rfl (hb hby d3_38) rfl k) ?_
  show OwnEnds p.tables e below _ (T6.setTop (mkF m 40 #[.val (.ref a0), .val (.ref b3), .val (.ref pos), .val (.int (2 : Int32)), .val (.int (1 : Int32)), .val (.int q0)] [(.int (1 : Int32)), (.ref pos)]))
  refine own_via (own_ldI X6 hx hZ e6 A_pos (v := (.int q1)) 1 rfl rfl (g := (mkF m 40 #[.val (.ref a0), .val (.ref b3), .val (.ref pos), .val (.int (2 : Int32)), .val (.int (1 : Int32)), .val (.int q0)] [(.int (1 : Int32)), (.ref pos)])) rfl rfl (hb hby d3_40)) ?_
  show OwnEnds p.tables e below _ (T6.setTop (mkF m 41 #[.val (.ref a0), .val (.ref b3), .val (.ref pos), .val (.int (2 : Int32)), .val (.int (1 : Int32)), .val (.int q0)] [(.int q1)]))
  refine own_via (fun t k => XS.istore X6.here hx rfl (hb hby d3_41) rfl (l' := #[.val (.ref a0), .val (.ref b3), .val (.ref pos), .val (.int (2 : Int32)), .val (.int (1 : Int32)), .val (.int q1)]) rfl k) ?_
  show OwnEnds p.tables e below _ (T6.setTop (mkF m 43 #[.val (.ref a0), .val (.ref b3), .val (.ref pos), .val (.int (2 : Int32)), .val (.int (1 : Int32)), .val (.int q1)] []))
  refine own_via (fun t k => XS.aloadN X6.here hx rfl (hb hby d3_43) rfl rfl k) ?_
  show OwnEnds p.tables e below _ (T6.setTop (mkF m 44 #[.val (.ref a0), .val (.ref b3), .val (.ref pos), .val (.int (2 : Int32)), .val (.int (1 : Int32)), .val (.int q1)] [(.ref b3)]))
  refine own_via (fun t k => XS.iload X6.here hx rfl (hb hby d3_44) rfl k) ?_
  show OwnEnds p.tables e below _ (T6.setTop (mkF m 46 #[.val (.ref a0), .val (.ref b3), .val (.ref pos), .val (.int (2 : Int32)), .val (.int (1 : Int32)), .val (.int q1)] [(.int q1), (.ref b3)]))
  refine own_via (fun t k => XS.bipush X6.here hx rfl (hb hby d3_46) k) ?_
  show OwnEnds p.tables e below _ (T6.setTop (mkF m 48 #[.val (.ref a0), .val (.ref b3), .val (.ref pos), .val (.int (2 : Int32)), .val (.int (1 : Int32)), .val (.int q1)] [(.int (8 : Int32)), (.int q1), (.ref b3)]))
  refine own_via (fun t k => XS.idiv X6.here hx rfl (hb hby d3_48) rfl (by decide) k) ?_
  show OwnEnds p.tables e below _ (T6.setTop (mkF m 49 #[.val (.ref a0), .val (.ref b3), .val (.ref pos), .val (.int (2 : Int32)), .val (.int (1 : Int32)), .val (.int q1)] [(.int (q1 / (8 : Int32))), (.ref b3)]))
  refine own_via (U' := T6.setTop (mkF m 50 #[.val (.ref a0), .val (.ref b3), .val (.ref pos), .val (.int (2 : Int32)), .val (.int (1 : Int32)), .val (.int q1)] [(.int (q1 / (8 : Int32))), (.ref b3), (.int (q1 / (8 : Int32))), (.ref b3)])) (fun t k => ?_) ?_
  · show Steps p.tables e below (T6.setTop (mkF m 49 #[.val (.ref a0), .val (.ref b3), .val (.ref pos), .val (.int (2 : Int32)), .val (.int (1 : Int32)), .val (.int q1)] [(.int (q1 / (8 : Int32))), (.ref b3)])) t
    jvm_step X6.here [X6.here.top, hx, (hb hby d3_49), Value.category]
    exact k
  refine own_via (own_ldB X6 hx hZ e6 A_b3 (v := (.int (own_g [q0] ((q1 / 8).toNatClampNeg)))) ((q1 / 8).toNatClampNeg) (own_d8 hq1).1 (own_bat [q0] (by have := own_lt hq1 hq1 hle_q1 [q0]; rwa [own_bll] at this)) (g := (mkF m 50 #[.val (.ref a0), .val (.ref b3), .val (.ref pos), .val (.int (2 : Int32)), .val (.int (1 : Int32)), .val (.int q1)] [(.int (q1 / (8 : Int32))), (.ref b3), (.int (q1 / (8 : Int32))), (.ref b3)])) rfl rfl (hb hby d3_50)) ?_
  show OwnEnds p.tables e below _ (T6.setTop (mkF m 51 #[.val (.ref a0), .val (.ref b3), .val (.ref pos), .val (.int (2 : Int32)), .val (.int (1 : Int32)), .val (.int q1)] [(.int (own_g [q0] ((q1 / 8).toNatClampNeg))), (.int (q1 / (8 : Int32))), (.ref b3)]))
  refine own_via (fun t k => XS.sipush X6.here hx rfl (hb hby d3_51) k) ?_
  show OwnEnds p.tables e below _ (T6.setTop (mkF m 54 #[.val (.ref a0), .val (.ref b3), .val (.ref pos), .val (.int (2 : Int32)), .val (.int (1 : Int32)), .val (.int q1)] [(.int (128 : Int32)), (.int (own_g [q0] ((q1 / 8).toNatClampNeg))), (.int (q1 / (8 : Int32))), (.ref b3)]))
  refine own_via (fun t k => XS.iload X6.here hx rfl (hb hby d3_54) rfl k) ?_
  show OwnEnds p.tables e below _ (T6.setTop (mkF m 56 #[.val (.ref a0), .val (.ref b3), .val (.ref pos), .val (.int (2 : Int32)), .val (.int (1 : Int32)), .val (.int q1)] [(.int q1), (.int (128 : Int32)), (.int (own_g [q0] ((q1 / 8).toNatClampNeg))), (.int (q1 / (8 : Int32))), (.ref b3)]))
  refine own_via (fun t k => XS.bipush X6.here hx rfl (hb hby d3_56) k) ?_
  show OwnEnds p.tables e below _ (T6.setTop (mkF m 58 #[.val (.ref a0), .val (.ref b3), .val (.ref pos), .val (.int (2 : Int32)), .val (.int (1 : Int32)), .val (.int q1)] [(.int (8 : Int32)), (.int q1), (.int (128 : Int32)), (.int (own_g [q0] ((q1 / 8).toNatClampNeg))), (.int (q1 / (8 : Int32))), (.ref b3)]))
  refine own_via (fun t k => Jvm.RoadKit.iremM X6 hx rfl (hb hby d3_58) rfl (by decide) k) ?_
  show OwnEnds p.tables e below _ (T6.setTop (mkF m 59 #[.val (.ref a0), .val (.ref b3), .val (.ref pos), .val (.int (2 : Int32)), .val (.int (1 : Int32)), .val (.int q1)] [(.int (q1 % (8 : Int32))), (.int (128 : Int32)), (.int (own_g [q0] ((q1 / 8).toNatClampNeg))), (.int (q1 / (8 : Int32))), (.ref b3)]))
  refine own_via (fun t k => XS.iushr X6.here hx rfl (hb hby d3_59) rfl k) ?_
  show OwnEnds p.tables e below _ (T6.setTop (mkF m 60 #[.val (.ref a0), .val (.ref b3), .val (.ref pos), .val (.int (2 : Int32)), .val (.int (1 : Int32)), .val (.int q1)] [(.int (((128 : Int32).toUInt32 >>> ((q1 % (8 : Int32)) &&& 31).toUInt32).toInt32)), (.int (own_g [q0] ((q1 / 8).toNatClampNeg))), (.int (q1 / (8 : Int32))), (.ref b3)]))
  refine own_via (fun t k => XS.i2b X6.here hx rfl (hb hby d3_60) rfl k) ?_
  show OwnEnds p.tables e below _ (T6.setTop (mkF m 61 #[.val (.ref a0), .val (.ref b3), .val (.ref pos), .val (.int (2 : Int32)), .val (.int (1 : Int32)), .val (.int q1)] [(.int ((((128 : Int32).toUInt32 >>> ((q1 % (8 : Int32)) &&& 31).toUInt32).toInt32).toInt8.toInt32)), (.int (own_g [q0] ((q1 / 8).toNatClampNeg))), (.int (q1 / (8 : Int32))), (.ref b3)]))
  refine own_via (fun t k => XS.ior X6.here hx rfl (hb hby d3_61) rfl k) ?_
  show OwnEnds p.tables e below _ (T6.setTop (mkF m 62 #[.val (.ref a0), .val (.ref b3), .val (.ref pos), .val (.int (2 : Int32)), .val (.int (1 : Int32)), .val (.int q1)] [(.int ((own_g [q0] ((q1 / 8).toNatClampNeg)) ||| ((((128 : Int32).toUInt32 >>> ((q1 % (8 : Int32)) &&& 31).toUInt32).toInt32).toInt8.toInt32))), (.int (q1 / (8 : Int32))), (.ref b3)]))
  refine own_via (fun t k => XS.i2b X6.here hx rfl (hb hby d3_62) rfl k) ?_
  show OwnEnds p.tables e below _ (T6.setTop (mkF m 63 #[.val (.ref a0), .val (.ref b3), .val (.ref pos), .val (.int (2 : Int32)), .val (.int (1 : Int32)), .val (.int q1)] [(.int (((own_g [q0] ((q1 / 8).toNatClampNeg)) ||| ((((128 : Int32).toUInt32 >>> ((q1 % (8 : Int32)) &&& 31).toUInt32).toInt32).toInt8.toInt32)).toInt8.toInt32)), (.int (q1 / (8 : Int32))), (.ref b3)]))
  obtain ⟨T8, h8, X8, e8, W8, AA8, st8⟩ := own_stB X6 hx hZ e6 A_b3 ((q1 / 8).toNatClampNeg) (own_d8 hq1).1 (own_lt hq1 hq1 hle_q1 _) (g := (mkF m 63 #[.val (.ref a0), .val (.ref b3), .val (.ref pos), .val (.int (2 : Int32)), .val (.int (1 : Int32)), .val (.int q1)] [(.int (((own_g [q0] ((q1 / 8).toNatClampNeg)) ||| ((((128 : Int32).toUInt32 >>> ((q1 % (8 : Int32)) &&& 31).toUInt32).toInt32).toInt8.toInt32)).toInt8.toInt32)), (.int (q1 / (8 : Int32))), (.ref b3)])) rfl rfl (hb hby d3_63)
  replace E_a0 := E_a0.wr W8
  replace F_pos := F_pos.other W8 (Or.inl ne_a0_b3)
  replace A_pos := A_pos.other W8 ne_pos_b3
  replace K0 := K0.wr W8 (Or.inr sz_b3)
  have Zs_W8 : n0 ≤ _ := Nat.le_trans Zs_W6 (Keep.of_wr W8).1
  replace A_b3 : AL Z h8 b3 .byte ((own_bl ((q1 / 8).toNatClampNeg + 1) [q0]).set ((q1 / 8).toNatClampNeg) (.int (nar .byte (((own_g [q0] ((q1 / 8).toNatClampNeg)) ||| ((((128 : Int32).toUInt32 >>> ((q1 % (8 : Int32)) &&& 31).toUInt32).toInt32).toInt8.toInt32)).toInt8.toInt32)))) := AA8
  have N8 := Fr.snoc X8 N6 g_b3
  refine own_via st8 ?_
  show OwnEnds p.tables e below _ (T8.setTop (mkF m 64 #[.val (.ref a0), .val (.ref b3), .val (.ref pos), .val (.int (2 : Int32)), .val (.int (1 : Int32)), .val (.int q1)] []))
  replace A_b3 : AL Z h8 b3 .byte (own_bl ((q1 / 8).toNatClampNeg + 1) [q0, q1]) := own_cast (own_blset ((q1 / 8).toNatClampNeg + 1) [q0] q1 _ rfl) A_b3
  refine own_via (fun t k => XS.iinc X8.here hx rfl (hb hby d3_64) rfl (l' := #[.val (.ref a0), .val (.ref b3), .val (.ref pos), .val (.int (2 : Int32)), .val (.int (2 : Int32)), .val (.int q1)]) rfl k) ?_
  show OwnEnds p.tables e below _ (T8.setTop (mkF m 67 #[.val (.ref a0), .val (.ref b3), .val (.ref pos), .val (.int (2 : Int32)), .val (.int (2 : Int32)), .val (.int q1)] []))
  refine own_via (fun t k => XS.goto X8.here hx rfl (pc0 := 67) (pc' := 31) rfl (hb hby d3_67) (by decide) (by decide) k) ?_
  show OwnEnds p.tables e below _ (T8.setTop (mkF m 31 #[.val (.ref a0), .val (.ref b3), .val (.ref pos), .val (.int (2 : Int32)), .val (.int (2 : Int32)), .val (.int q1)] []))
  refine own_via (fun t k => XS.iload X8.here hx rfl (hb hby d3_31) rfl k) ?_
  show OwnEnds p.tables e below _ (T8.setTop (mkF m 33 #[.val (.ref a0), .val (.ref b3), .val (.ref pos), .val (.int (2 : Int32)), .val (.int (2 : Int32)), .val (.int q1)] [(.int (2 : Int32))]))
  refine own_via (fun t k => XS.iloadN X8.here hx rfl (hb hby d3_33) rfl k) ?_
  show OwnEnds p.tables e below _ (T8.setTop (mkF m 34 #[.val (.ref a0), .val (.ref b3), .val (.ref pos), .val (.int (2 : Int32)), .val (.int (2 : Int32)), .val (.int q1)] [(.int (2 : Int32)), (.int (2 : Int32))]))
  have hc34_9 : ¬ ((2 : Int32) < (2 : Int32)) := by decide
  refine own_via (fun t k => XS.icmpYes X8.here hx rfl (pc0 := 34) (pc' := 70) rfl (hb hby d3_34) rfl (flt hc34_9).2.1 (by decide) (by decide) k) ?_
  show OwnEnds p.tables e below _ (T8.setTop (mkF m 70 #[.val (.ref a0), .val (.ref b3), .val (.ref pos), .val (.int (2 : Int32)), .val (.int (2 : Int32)), .val (.int q1)] []))
  refine own_via (fun t k => XS.aloadN X8.here hx rfl (hb hby d3_70) rfl rfl k) ?_
  show OwnEnds p.tables e below _ (T8.setTop (mkF m 71 #[.val (.ref a0), .val (.ref b3), .val (.ref pos), .val (.int (2 : Int32)), .val (.int (2 : Int32)), .val (.int q1)] [(.ref b3)]))
  refine own_retA X8 hx Bd.returns rfl rfl hlk (hb hby d3_71) ?_ (by decide) (by decide)
  rw [e8]
  exact ⟨b3, rfl, N8, K0, sz_b3, A_b3⟩
theorem ef_52 (m : MethodId) (a0 : Addr) (p2 : Int32) : entryFrame m #[(.ref a0), (.int (2 : Int32)), (.int p2)] 4 = mkF m 0 #[.val (.ref a0), .val (.int (2 : Int32)), .val (.int p2), .unset] [] := by first | (simp [entryFrame, mkF, argsToLocals, Value.category]; done) | rfl
def Q52 (Z : State) (a0 : Addr) (p2 : Int32) (q0 : Int32) (q1 : Int32) (q2 : Int32) (h0 : Heap) (n0 : Nat) (v : Option Value) (h : Heap) (L : List Loc) : Prop := v = some (.int ((own_bi q0 p2) ||| (own_bi q1 p2))) ∧ Fr n0 L ∧ h = h0
set_option maxRecDepth 65536 in
set_option maxHeartbeats 40000000 in
theorem rm52 (l : Launch) (Z : State) (aw : Array Value) (hw : ∀ d ∈ tables_1, d.before aw Z = true) (ws : List Jvm.Cond) (a0 : Addr) (p2 : Int32) (q0 : Int32) (q1 : Int32) (q2 : Int32) (h0 : Heap) (n0 : Nat) (Z0 : n0 ≤ h0.size) (A_a0 : AL Z h0 a0 .int [(.int q0), (.int q1), (.int q2)]) :
    MetFree l (⟨"com/example/crowd_cache/crowdcache/core/BucketToBitmapPinLaw", "expectedAt", "([III)I"⟩ : MethodName) (head1 (Jvm.Cond.code (⟨"com/example/crowd_cache/crowdcache/core/BucketToBitmapPinLaw", "expectedAt", "([III)I"⟩ : MethodName) method_4_code 4 (some .int) :: ws) ({ frames := 1, cells := 0, slots := 0, locals := 14 } : Room)) (fun a U => a = #[(.ref a0), (.int (2 : Int32)), (.int p2)] ∧ Z.Warmed39 U.vm ∧ U.heap = h0) (fun _ _ _ _ _ => True) (fun _ U o U' => ∃ v L, o = .returned v ∧ Q52 Z a0 p2 q0 q1 q2 h0 n0 v U'.heap L ∧ FrameEnd U o U' L ({ frames := 1, cells := 0, slots := 0, locals := 14 } : Room).cells ({ frames := 1, cells := 0, slots := 0, locals := 14 } : Room).slots) := by
  refine MetFree.of_bodySF (plainFor_of_name pn_1) hisR ?_
  intro p e s m args below meth c s₁ Bd hml0 hP hK
  obtain ⟨rfl, hZ, hh⟩ := hP
  have hx := Bd.exec
  have hby := Bd.bytes
  have hml : c.maxLocals = 4 := hml0
  have hown : s.vm.findClass "com/example/crowd_cache/crowdcache/core/BucketToBitmapPinLaw" = some m.cls := findClass_of_methodNamed Bd.named
  have hnm := (name_of_methodNamed Bd.named Bd.method).1
  have hlk : meth.locks = false := Bd.notSynchronized
  have X0 : Stand p l e ({ frames := 1, cells := 0, slots := 0, locals := 14 } : Room) s m #[(.ref a0), (.int (2 : Int32)), (.int p2)] below meth c s₁ [] 0 0 := Stand.of_body Bd
  have e0 : s₁.heap = h0 := by rw [← hh, Bd.state]; rfl
  have N0 := Fr.nil n0
  show OwnEnds p.tables e below (OwnQ s ({ frames := 1, cells := 0, slots := 0, locals := 14 } : Room).cells ({ frames := 1, cells := 0, slots := 0, locals := 14 } : Room).slots (Q52 Z a0 p2 q0 q1 q2 h0 n0)) (s₁.setTop (entryFrame m #[(.ref a0), (.int (2 : Int32)), (.int p2)] 4))
  refine own_via (fun t k => castTop (ef_52 m a0 p2) k) ?_
  show OwnEnds p.tables e below _ (s₁.setTop (mkF m 0 #[.val (.ref a0), .val (.int (2 : Int32)), .val (.int p2), .unset] []))
  refine own_via (fun t k => XS.aloadN X0.here hx rfl (hb hby d5_0) rfl rfl k) ?_
  show OwnEnds p.tables e below _ (s₁.setTop (mkF m 1 #[.val (.ref a0), .val (.int (2 : Int32)), .val (.int p2), .unset] [(.ref a0)]))
  refine own_via (fun t k => XS.iconst X0.here hx rfl (hb hby d5_1) k) ?_
  show OwnEnds p.tables e below _ (s₁.setTop (mkF m 2 #[.val (.ref a0), .val (.int (2 : Int32)), .val (.int p2), .unset] [(.int (0 : Int32)), (.ref a0)]))
  refine own_via (own_ldI X0 hx hZ e0 A_a0 (v := (.int q0)) 0 rfl rfl (g := (mkF m 2 #[.val (.ref a0), .val (.int (2 : Int32)), .val (.int p2), .unset] [(.int (0 : Int32)), (.ref a0)])) rfl rfl (hb hby d5_2)) ?_
  show OwnEnds p.tables e below _ (s₁.setTop (mkF m 3 #[.val (.ref a0), .val (.int (2 : Int32)), .val (.int p2), .unset] [(.int q0)]))
  refine own_via (fun t k => XS.iloadN X0.here hx rfl (hb hby d5_3) rfl k) ?_
  show OwnEnds p.tables e below _ (s₁.setTop (mkF m 4 #[.val (.ref a0), .val (.int (2 : Int32)), .val (.int p2), .unset] [(.int p2), (.int q0)]))
  obtain ⟨_, _, ⟨T1, L1, k1, n1⟩, -, X1, ⟨Lc1, hQ1, l1, y1, z1⟩, st1⟩ := Jvm.LawKit.callS X0 hx (y := (⟨"com/example/crowd_cache/crowdcache/core/BucketToBitmapPinLaw", "bitIn", "(II)I"⟩ : MethodName)) hown (mvT hZ (hw _ (List.mem_of_getElem? (i := 29) rfl))) (mvT hZ (hw _ (List.mem_of_getElem? (i := 30) rfl))) (mvT hZ (hw _ (List.mem_of_getElem? (i := 24) rfl))) (mvT hZ (hw _ (List.mem_of_getElem? (i := 31) rfl))) (by decide) (backOf (W := 0) (rm6 l Z aw hw [] q0 p2 h0 n0 Z0 ) hZ (hw _ (List.mem_of_getElem? (i := 31) rfl)) (hw _ (List.mem_of_getElem? (i := 24) rfl)) (by decide) (by decide)) (g := (mkF m 4 #[.val (.ref a0), .val (.int (2 : Int32)), .val (.int p2), .unset] [(.int p2), (.int q0)])) rfl (by rw [hml]; rfl) (argsL := [(.int q0), (.int p2)]) (rest := []) (lenOf pd_0 rfl) rfl (by show 2 * 0 + _ ≤ _; exact Nat.le_of_eq rfl) (hb hby d5_4) (fun _ _ => ⟨rfl, e0, (by decide : 0 + 0 ≤ _), (by decide : 0 + 0 ≤ _)⟩)
  dsimp only [Pt.U, Pt.locs, Pt.cells, Pt.slots] at X1 l1 y1 z1 st1 hQ1
  subst l1 y1 z1
  obtain ⟨rfl, Nq1, e1⟩ := hQ1
  have N1 := Fr.app N0 Nq1
  replace e1 : T1.heap = h0 := e1
  refine own_via st1 ?_
  show OwnEnds p.tables e below _ (T1.setTop (mkF m 7 #[.val (.ref a0), .val (.int (2 : Int32)), .val (.int p2), .unset] [(.int (own_bi q0 p2))]))
  refine own_via (fun t k => XS.istoreN X1.here hx rfl (hb hby d5_7) rfl (l' := #[.val (.ref a0), .val (.int (2 : Int32)), .val (.int p2), .val (.int (own_bi q0 p2))]) rfl k) ?_
  show OwnEnds p.tables e below _ (T1.setTop (mkF m 8 #[.val (.ref a0), .val (.int (2 : Int32)), .val (.int p2), .val (.int (own_bi q0 p2))] []))
  refine own_via (fun t k => XS.iloadN X1.here hx rfl (hb hby d5_8) rfl k) ?_
  show OwnEnds p.tables e below _ (T1.setTop (mkF m 9 #[.val (.ref a0), .val (.int (2 : Int32)), .val (.int p2), .val (.int (own_bi q0 p2))] [(.int (2 : Int32))]))
  refine own_via (fun t k => XS.iconst X1.here hx rfl (hb hby d5_9) k) ?_
  show OwnEnds p.tables e below _ (T1.setTop (mkF m 10 #[.val (.ref a0), .val (.int (2 : Int32)), .val (.int p2), .val (.int (own_bi q0 p2))] [(.int (2 : Int32)), (.int (2 : Int32))]))
  have hc10_2 : ¬ ((2 : Int32) < (2 : Int32)) := by decide
  refine own_via (fun t k => XS.icmpNo X1.here hx rfl (hb hby d5_10) rfl (flt hc10_2).1 k) ?_
  show OwnEnds p.tables e below _ (T1.setTop (mkF m 13 #[.val (.ref a0), .val (.int (2 : Int32)), .val (.int p2), .val (.int (own_bi q0 p2))] []))
  refine own_via (fun t k => XS.iloadN X1.here hx rfl (hb hby d5_13) rfl k) ?_
  show OwnEnds p.tables e below _ (T1.setTop (mkF m 14 #[.val (.ref a0), .val (.int (2 : Int32)), .val (.int p2), .val (.int (own_bi q0 p2))] [(.int (own_bi q0 p2))]))
  refine own_via (fun t k => XS.aloadN X1.here hx rfl (hb hby d5_14) rfl rfl k) ?_
  show OwnEnds p.tables e below _ (T1.setTop (mkF m 15 #[.val (.ref a0), .val (.int (2 : Int32)), .val (.int p2), .val (.int (own_bi q0 p2))] [(.ref a0), (.int (own_bi q0 p2))]))
  refine own_via (fun t k => XS.iconst X1.here hx rfl (hb hby d5_15) k) ?_
  show OwnEnds p.tables e below _ (T1.setTop (mkF m 16 #[.val (.ref a0), .val (.int (2 : Int32)), .val (.int p2), .val (.int (own_bi q0 p2))] [(.int (1 : Int32)), (.ref a0), (.int (own_bi q0 p2))]))
  refine own_via (own_ldI X1 hx hZ e1 A_a0 (v := (.int q1)) 1 rfl rfl (g := (mkF m 16 #[.val (.ref a0), .val (.int (2 : Int32)), .val (.int p2), .val (.int (own_bi q0 p2))] [(.int (1 : Int32)), (.ref a0), (.int (own_bi q0 p2))])) rfl rfl (hb hby d5_16)) ?_
  show OwnEnds p.tables e below _ (T1.setTop (mkF m 17 #[.val (.ref a0), .val (.int (2 : Int32)), .val (.int p2), .val (.int (own_bi q0 p2))] [(.int q1), (.int (own_bi q0 p2))]))
  refine own_via (fun t k => XS.iloadN X1.here hx rfl (hb hby d5_17) rfl k) ?_
  show OwnEnds p.tables e below _ (T1.setTop (mkF m 18 #[.val (.ref a0), .val (.int (2 : Int32)), .val (.int p2), .val (.int (own_bi q0 p2))] [(.int p2), (.int q1), (.int (own_bi q0 p2))]))
  obtain ⟨_, _, ⟨T3, L3, k3, n3⟩, -, X3, ⟨Lc3, hQ3, l3, y3, z3⟩, st3⟩ := Jvm.LawKit.callS X1 hx (y := (⟨"com/example/crowd_cache/crowdcache/core/BucketToBitmapPinLaw", "bitIn", "(II)I"⟩ : MethodName)) hown (mvT hZ (hw _ (List.mem_of_getElem? (i := 29) rfl))) (mvT hZ (hw _ (List.mem_of_getElem? (i := 30) rfl))) (mvT hZ (hw _ (List.mem_of_getElem? (i := 24) rfl))) (mvT hZ (hw _ (List.mem_of_getElem? (i := 31) rfl))) (by decide) (backOf (W := 1) (rm6 l Z aw hw [] q1 p2 h0 n0 Z0 ) hZ (hw _ (List.mem_of_getElem? (i := 31) rfl)) (hw _ (List.mem_of_getElem? (i := 24) rfl)) (by decide) (by decide)) (g := (mkF m 18 #[.val (.ref a0), .val (.int (2 : Int32)), .val (.int p2), .val (.int (own_bi q0 p2))] [(.int p2), (.int q1), (.int (own_bi q0 p2))])) rfl (by rw [hml]; rfl) (argsL := [(.int q1), (.int p2)]) (rest := [(.int (own_bi q0 p2))]) (lenOf pd_0 rfl) rfl (by show 2 * 0 + _ ≤ _; exact Nat.le_of_eq rfl) (hb hby d5_18) (fun _ _ => ⟨rfl, e1, (by decide : 0 + 0 ≤ _), (by decide : 0 + 0 ≤ _)⟩)
  dsimp only [Pt.U, Pt.locs, Pt.cells, Pt.slots] at X3 l3 y3 z3 st3 hQ3
  subst l3 y3 z3
  obtain ⟨rfl, Nq3, e3⟩ := hQ3
  have N3 := Fr.app N1 Nq3
  replace e3 : T3.heap = h0 := e3
  refine own_via st3 ?_
  show OwnEnds p.tables e below _ (T3.setTop (mkF m 21 #[.val (.ref a0), .val (.int (2 : Int32)), .val (.int p2), .val (.int (own_bi q0 p2))] [(.int (own_bi q1 p2)), (.int (own_bi q0 p2))]))
  refine own_via (fun t k => XS.ior X3.here hx rfl (hb hby d5_21) rfl k) ?_
  show OwnEnds p.tables e below _ (T3.setTop (mkF m 22 #[.val (.ref a0), .val (.int (2 : Int32)), .val (.int p2), .val (.int (own_bi q0 p2))] [(.int ((own_bi q0 p2) ||| (own_bi q1 p2)))]))
  refine own_via (fun t k => XS.istoreN X3.here hx rfl (hb hby d5_22) rfl (l' := #[.val (.ref a0), .val (.int (2 : Int32)), .val (.int p2), .val (.int ((own_bi q0 p2) ||| (own_bi q1 p2)))]) rfl k) ?_
  show OwnEnds p.tables e below _ (T3.setTop (mkF m 23 #[.val (.ref a0), .val (.int (2 : Int32)), .val (.int p2), .val (.int ((own_bi q0 p2) ||| (own_bi q1 p2)))] []))
  refine own_via (fun t k => XS.iloadN X3.here hx rfl (hb hby d5_23) rfl k) ?_
  show OwnEnds p.tables e below _ (T3.setTop (mkF m 24 #[.val (.ref a0), .val (.int (2 : Int32)), .val (.int p2), .val (.int ((own_bi q0 p2) ||| (own_bi q1 p2)))] [(.int (2 : Int32))]))
  refine own_via (fun t k => XS.iconst X3.here hx rfl (hb hby d5_24) k) ?_
  show OwnEnds p.tables e below _ (T3.setTop (mkF m 25 #[.val (.ref a0), .val (.int (2 : Int32)), .val (.int p2), .val (.int ((own_bi q0 p2) ||| (own_bi q1 p2)))] [(.int (3 : Int32)), (.int (2 : Int32))]))
  have hc25_4 : (2 : Int32) < (3 : Int32) := by decide
  refine own_via (fun t k => XS.icmpYes X3.here hx rfl (pc0 := 25) (pc' := 38) rfl (hb hby d5_25) rfl (tlt hc25_4).1 (by decide) (by decide) k) ?_
  show OwnEnds p.tables e below _ (T3.setTop (mkF m 38 #[.val (.ref a0), .val (.int (2 : Int32)), .val (.int p2), .val (.int ((own_bi q0 p2) ||| (own_bi q1 p2)))] []))
  refine own_via (fun t k => XS.iloadN X3.here hx rfl (hb hby d5_38) rfl k) ?_
  show OwnEnds p.tables e below _ (T3.setTop (mkF m 39 #[.val (.ref a0), .val (.int (2 : Int32)), .val (.int p2), .val (.int ((own_bi q0 p2) ||| (own_bi q1 p2)))] [(.int ((own_bi q0 p2) ||| (own_bi q1 p2)))]))
  refine own_retI X3 hx Bd.returns hlk (hb hby d5_39) ?_ (by decide) (by decide)
  rw [e3]
  exact ⟨rfl, N3, rfl⟩
theorem ef_42 (m : MethodId) (a0 : Addr) (a1 : Addr) (p3 : Int32) : entryFrame m #[(.ref a0), (.ref a1), (.int (2 : Int32)), (.int p3)] 4 = mkF m 0 #[.val (.ref a0), .val (.ref a1), .val (.int (2 : Int32)), .val (.int p3)] [] := by first | (simp [entryFrame, mkF, argsToLocals, Value.category]; done) | rfl
def Q42 (Z : State) (a0 : Addr) (a1 : Addr) (p3 : Int32) (q0 : Int32) (q1 : Int32) (q2 : Int32) (NN : Nat) (jn : Nat) (h0 : Heap) (n0 : Nat) (v : Option Value) (h : Heap) (L : List Loc) : Prop := v = some (.int 1) ∧ Fr n0 L ∧ h = h0
set_option maxRecDepth 65536 in
set_option maxHeartbeats 40000000 in
theorem rm42 (l : Launch) (Z : State) (aw : Array Value) (hw : ∀ d ∈ tables_1, d.before aw Z = true) (ws : List Jvm.Cond) (a0 : Addr) (a1 : Addr) (p3 : Int32) (q0 : Int32) (q1 : Int32) (q2 : Int32) (NN : Nat) (jn : Nat) (h0 : Heap) (n0 : Nat) (Z0 : n0 ≤ h0.size) (A_a0 : AL Z h0 a0 .byte (own_bl NN [q0, q1])) (A_a1 : AL Z h0 a1 .int [(.int q0), (.int q1), (.int q2)]) (hjn : p3.toInt = jn) (hlt : jn < NN) (hq0 : 0 ≤ q0.toInt ∧ q0.toInt ≤ 65535) (hq1 : 0 ≤ q1.toInt ∧ q1.toInt ≤ 65535) :
    MetFree l (⟨"com/example/crowd_cache/crowdcache/core/BucketToBitmapPinLaw", "checkAt", "([B[III)Z"⟩ : MethodName) (head1 (Jvm.Cond.code (⟨"com/example/crowd_cache/crowdcache/core/BucketToBitmapPinLaw", "checkAt", "([B[III)Z"⟩ : MethodName) method_3_code 4 (some .boolean) :: ws) ({ frames := 2, cells := 0, slots := 0, locals := 30 } : Room)) (fun a U => a = #[(.ref a0), (.ref a1), (.int (2 : Int32)), (.int p3)] ∧ Z.Warmed39 U.vm ∧ U.heap = h0) (fun _ _ _ _ _ => True) (fun _ U o U' => ∃ v L, o = .returned v ∧ Q42 Z a0 a1 p3 q0 q1 q2 NN jn h0 n0 v U'.heap L ∧ FrameEnd U o U' L ({ frames := 2, cells := 0, slots := 0, locals := 30 } : Room).cells ({ frames := 2, cells := 0, slots := 0, locals := 30 } : Room).slots) := by
  refine MetFree.of_bodySF (plainFor_of_name pn_1) hisR ?_
  intro p e s m args below meth c s₁ Bd hml0 hP hK
  obtain ⟨rfl, hZ, hh⟩ := hP
  have hx := Bd.exec
  have hby := Bd.bytes
  have hml : c.maxLocals = 4 := hml0
  have hown : s.vm.findClass "com/example/crowd_cache/crowdcache/core/BucketToBitmapPinLaw" = some m.cls := findClass_of_methodNamed Bd.named
  have hnm := (name_of_methodNamed Bd.named Bd.method).1
  have hlk : meth.locks = false := Bd.notSynchronized
  have X0 : Stand p l e ({ frames := 2, cells := 0, slots := 0, locals := 30 } : Room) s m #[(.ref a0), (.ref a1), (.int (2 : Int32)), (.int p3)] below meth c s₁ [] 0 0 := Stand.of_body Bd
  have e0 : s₁.heap = h0 := by rw [← hh, Bd.state]; rfl
  have N0 := Fr.nil n0
  show OwnEnds p.tables e below (OwnQ s ({ frames := 2, cells := 0, slots := 0, locals := 30 } : Room).cells ({ frames := 2, cells := 0, slots := 0, locals := 30 } : Room).slots (Q42 Z a0 a1 p3 q0 q1 q2 NN jn h0 n0)) (s₁.setTop (entryFrame m #[(.ref a0), (.ref a1), (.int (2 : Int32)), (.int p3)] 4))
  refine own_via (fun t k => castTop (ef_42 m a0 a1 p3) k) ?_
  show OwnEnds p.tables e below _ (s₁.setTop (mkF m 0 #[.val (.ref a0), .val (.ref a1), .val (.int (2 : Int32)), .val (.int p3)] []))
  refine own_via (fun t k => XS.aloadN X0.here hx rfl (hb hby d4_0) rfl rfl k) ?_
  show OwnEnds p.tables e below _ (s₁.setTop (mkF m 1 #[.val (.ref a0), .val (.ref a1), .val (.int (2 : Int32)), .val (.int p3)] [(.ref a0)]))
  refine own_via (fun t k => XS.iloadN X0.here hx rfl (hb hby d4_1) rfl k) ?_
  show OwnEnds p.tables e below _ (s₁.setTop (mkF m 2 #[.val (.ref a0), .val (.ref a1), .val (.int (2 : Int32)), .val (.int p3)] [(.int p3), (.ref a0)]))
  refine own_via (own_ldB X0 hx hZ e0 A_a0 (v := (.int (own_g [q0, q1] jn))) jn hjn (own_bat _ hlt) (g := (mkF m 2 #[.val (.ref a0), .val (.ref a1), .val (.int (2 : Int32)), .val (.int p3)] [(.int p3), (.ref a0)])) rfl rfl (hb hby d4_2)) ?_
  show OwnEnds p.tables e below _ (s₁.setTop (mkF m 3 #[.val (.ref a0), .val (.ref a1), .val (.int (2 : Int32)), .val (.int p3)] [(.int (own_g [q0, q1] jn))]))
  refine own_via (fun t k => XS.aloadN X0.here hx rfl (hb hby d4_3) rfl rfl k) ?_
  show OwnEnds p.tables e below _ (s₁.setTop (mkF m 4 #[.val (.ref a0), .val (.ref a1), .val (.int (2 : Int32)), .val (.int p3)] [(.ref a1), (.int (own_g [q0, q1] jn))]))
  refine own_via (fun t k => XS.iloadN X0.here hx rfl (hb hby d4_4) rfl k) ?_
  show OwnEnds p.tables e below _ (s₁.setTop (mkF m 5 #[.val (.ref a0), .val (.ref a1), .val (.int (2 : Int32)), .val (.int p3)] [(.int (2 : Int32)), (.ref a1), (.int (own_g [q0, q1] jn))]))
  refine own_via (fun t k => XS.iloadN X0.here hx rfl (hb hby d4_5) rfl k) ?_
  show OwnEnds p.tables e below _ (s₁.setTop (mkF m 6 #[.val (.ref a0), .val (.ref a1), .val (.int (2 : Int32)), .val (.int p3)] [(.int p3), (.int (2 : Int32)), (.ref a1), (.int (own_g [q0, q1] jn))]))
  obtain ⟨_, _, ⟨T1, L1, k1, n1⟩, -, X1, ⟨Lc1, hQ1, l1, y1, z1⟩, st1⟩ := Jvm.LawKit.callS X0 hx (y := (⟨"com/example/crowd_cache/crowdcache/core/BucketToBitmapPinLaw", "expectedAt", "([III)I"⟩ : MethodName)) hown (mvT hZ (hw _ (List.mem_of_getElem? (i := 26) rfl))) (mvT hZ (hw _ (List.mem_of_getElem? (i := 27) rfl))) (mvT hZ (hw _ (List.mem_of_getElem? (i := 24) rfl))) (mvT hZ (hw _ (List.mem_of_getElem? (i := 28) rfl))) (by decide) (backOf (W := 1) (rm52 l Z aw hw [] a1 p3 q0 q1 q2 h0 n0 Z0 A_a1) hZ (hw _ (List.mem_of_getElem? (i := 28) rfl)) (hw _ (List.mem_of_getElem? (i := 24) rfl)) (by decide) (by decide)) (g := (mkF m 6 #[.val (.ref a0), .val (.ref a1), .val (.int (2 : Int32)), .val (.int p3)] [(.int p3), (.int (2 : Int32)), (.ref a1), (.int (own_g [q0, q1] jn))])) rfl (by rw [hml]; rfl) (argsL := [(.ref a1), (.int (2 : Int32)), (.int p3)]) (rest := [(.int (own_g [q0, q1] jn))]) (lenOf pd_1 rfl) rfl (by show 2 * 0 + _ ≤ _; exact Nat.le_of_eq rfl) (hb hby d4_6) (fun _ _ => ⟨rfl, e0, (by decide : 0 + 0 ≤ _), (by decide : 0 + 0 ≤ _)⟩)
  dsimp only [Pt.U, Pt.locs, Pt.cells, Pt.slots] at X1 l1 y1 z1 st1 hQ1
  subst l1 y1 z1
  obtain ⟨rfl, Nq1, e1⟩ := hQ1
  have N1 := Fr.app N0 Nq1
  replace e1 : T1.heap = h0 := e1
  refine own_via st1 ?_
  show OwnEnds p.tables e below _ (T1.setTop (mkF m 9 #[.val (.ref a0), .val (.ref a1), .val (.int (2 : Int32)), .val (.int p3)] [(.int ((own_bi q0 p3) ||| (own_bi q1 p3))), (.int (own_g [q0, q1] jn))]))
  refine own_via (fun t k => XS.i2b X1.here hx rfl (hb hby d4_9) rfl k) ?_
  show OwnEnds p.tables e below _ (T1.setTop (mkF m 10 #[.val (.ref a0), .val (.ref a1), .val (.int (2 : Int32)), .val (.int p3)] [(.int (((own_bi q0 p3) ||| (own_bi q1 p3)).toInt8.toInt32)), (.int (own_g [q0, q1] jn))]))
  have hc10_2 : (own_g [q0, q1] jn) = (((own_bi q0 p3) ||| (own_bi q1 p3)).toInt8.toInt32) := own_ck2 hq0 hq1 hjn
  refine own_via (fun t k => XS.icmpNo X1.here hx rfl (hb hby d4_10) rfl (teq hc10_2).2 k) ?_
  show OwnEnds p.tables e below _ (T1.setTop (mkF m 13 #[.val (.ref a0), .val (.ref a1), .val (.int (2 : Int32)), .val (.int p3)] []))
  refine own_via (fun t k => XS.iconst X1.here hx rfl (hb hby d4_13) k) ?_
  show OwnEnds p.tables e below _ (T1.setTop (mkF m 14 #[.val (.ref a0), .val (.ref a1), .val (.int (2 : Int32)), .val (.int p3)] [(.int (1 : Int32))]))
  refine own_via (fun t k => XS.goto X1.here hx rfl (pc0 := 14) (pc' := 18) rfl (hb hby d4_14) (by decide) (by decide) k) ?_
  show OwnEnds p.tables e below _ (T1.setTop (mkF m 18 #[.val (.ref a0), .val (.ref a1), .val (.int (2 : Int32)), .val (.int p3)] [(.int (1 : Int32))]))
  refine own_retN (t := .boolean) X1 hx Bd.returns (by simp) hlk (hb hby d4_18) ?_ (by decide) (by decide)
  rw [e1]
  exact ⟨rfl, N1, rfl⟩
theorem ef_33 (m : MethodId) (a0 : Addr) : entryFrame m #[(.ref a0)] 6 = mkF m 0 #[.val (.ref a0), .unset, .unset, .unset, .unset, .unset] [] := by first | (simp [entryFrame, mkF, argsToLocals, Value.category]; done) | rfl
def Q33 (Z : State) (a0 : Addr) (pos : Addr) (q0 : Int32) (q1 : Int32) (q2 : Int32) (h0 : Heap) (n0 : Nat) (v : Option Value) (h : Heap) (L : List Loc) : Prop := ∃ b : Addr, v = some (.ref b) ∧ Fr n0 L ∧ Keep h0 h [] ∧ h0.size ≤ b ∧ AL Z h b .byte (own_bl ((q2 / 8).toNatClampNeg + 1) [q0, q1, q2])
set_option maxRecDepth 65536 in
set_option maxHeartbeats 40000000 in
theorem rm33 (l : Launch) (Z : State) (aw : Array Value) (hw : ∀ d ∈ tables_1, d.before aw Z = true) (ws : List Jvm.Cond) (a0 : Addr) (pos : Addr) (q0 : Int32) (q1 : Int32) (q2 : Int32) (h0 : Heap) (n0 : Nat) (Z0 : n0 ≤ h0.size) (E_a0 : Exa Z h0 a0 "com/example/crowd_cache/crowdcache/core/Bucket") (F_pos : Fld Z h0 a0 "com/example/crowd_cache/crowdcache/core/Bucket" "positions" "[I" (.ref pos)) (A_pos : AL Z h0 pos .int [(.int q0), (.int q1), (.int q2)]) (hq0 : 0 ≤ q0.toInt ∧ q0.toInt ≤ 65535) (hq1 : 0 ≤ q1.toInt ∧ q1.toInt ≤ 65535) (hq2 : 0 ≤ q2.toInt ∧ q2.toInt ≤ 65535) (hle_q0 : q0.toInt ≤ q2.toInt) (hle_q1 : q1.toInt ≤ q2.toInt) (hle_q2 : q2.toInt ≤ q2.toInt) :
    MetFree l (⟨"com/example/crowd_cache/crowdcache/core/Bucket", "toBitmap", "()[B"⟩ : MethodName) (head1 (Jvm.Cond.code (⟨"com/example/crowd_cache/crowdcache/core/Bucket", "toBitmap", "()[B"⟩ : MethodName) prog_1_method_7_code 6 (some (.array .byte)) :: ws) ({ frames := 0, cells := 1, slots := 8192, locals := 0 } : Room)) (fun a U => a = #[(.ref a0)] ∧ Z.Warmed39 U.vm ∧ U.heap = h0) (fun _ _ _ _ _ => True) (fun _ U o U' => ∃ v L, o = .returned v ∧ Q33 Z a0 pos q0 q1 q2 h0 n0 v U'.heap L ∧ FrameEnd U o U' L ({ frames := 0, cells := 1, slots := 8192, locals := 0 } : Room).cells ({ frames := 0, cells := 1, slots := 8192, locals := 0 } : Room).slots) := by
  refine MetFree.of_bodySF (plainFor_of_name pn_0) hisR ?_
  intro p e s m args below meth c s₁ Bd hml0 hP hK
  obtain ⟨rfl, hZ, hh⟩ := hP
  have hx := Bd.exec
  have hby := Bd.bytes
  have hml : c.maxLocals = 6 := hml0
  have hown : s.vm.findClass "com/example/crowd_cache/crowdcache/core/Bucket" = some m.cls := findClass_of_methodNamed Bd.named
  have hnm := (name_of_methodNamed Bd.named Bd.method).1
  have hlk : meth.locks = false := Bd.notSynchronized
  have X0 : Stand p l e ({ frames := 0, cells := 1, slots := 8192, locals := 0 } : Room) s m #[(.ref a0)] below meth c s₁ [] 0 0 := Stand.of_body Bd
  have e0 : s₁.heap = h0 := by rw [← hh, Bd.state]; rfl
  have N0 := Fr.nil n0
  show OwnEnds p.tables e below (OwnQ s ({ frames := 0, cells := 1, slots := 8192, locals := 0 } : Room).cells ({ frames := 0, cells := 1, slots := 8192, locals := 0 } : Room).slots (Q33 Z a0 pos q0 q1 q2 h0 n0)) (s₁.setTop (entryFrame m #[(.ref a0)] 6))
  refine own_via (fun t k => castTop (ef_33 m a0) k) ?_
  show OwnEnds p.tables e below _ (s₁.setTop (mkF m 0 #[.val (.ref a0), .unset, .unset, .unset, .unset, .unset] []))
  have K0 : Keep h0 h0 [] := Keep.refl _ _
  refine own_via (fun t k => XS.aloadN X0.here hx rfl (hb hby d3_0) rfl rfl k) ?_
  show OwnEnds p.tables e below _ (s₁.setTop (mkF m 1 #[.val (.ref a0), .unset, .unset, .unset, .unset, .unset] [(.ref a0)]))
  obtain ⟨T1, X1, e1, st1⟩ := getF X0 hx hZ hown (host := "") (Or.inl (hw _ (List.mem_of_getElem? (i := 14) rfl))) Via.refl e0 F_pos (g := (mkF m 1 #[.val (.ref a0), .unset, .unset, .unset, .unset, .unset] [(.ref a0)])) rfl rfl (hb hby d3_1)
  refine own_via st1 ?_
  show OwnEnds p.tables e below _ (T1.setTop (mkF m 4 #[.val (.ref a0), .unset, .unset, .unset, .unset, .unset] [(.ref pos)]))
  refine own_via (fun t k => XS.aloadN X1.here hx rfl (hb hby d3_4) rfl rfl k) ?_
  show OwnEnds p.tables e below _ (T1.setTop (mkF m 5 #[.val (.ref a0), .unset, .unset, .unset, .unset, .unset] [(.ref a0), (.ref pos)]))
  obtain ⟨T2, X2, e2, st2⟩ := getF X1 hx hZ hown (host := "") (Or.inl (hw _ (List.mem_of_getElem? (i := 14) rfl))) Via.refl e1 F_pos (g := (mkF m 5 #[.val (.ref a0), .unset, .unset, .unset, .unset, .unset] [(.ref a0), (.ref pos)])) rfl rfl (hb hby d3_5)
  refine own_via st2 ?_
  show OwnEnds p.tables e below _ (T2.setTop (mkF m 8 #[.val (.ref a0), .unset, .unset, .unset, .unset, .unset] [(.ref pos), (.ref pos)]))
  refine own_via (own_len X2 hx hZ e2 A_pos (z := (3 : Int32)) rfl (g := (mkF m 8 #[.val (.ref a0), .unset, .unset, .unset, .unset, .unset] [(.ref pos), (.ref pos)])) rfl rfl (hb hby d3_8)) ?_
  show OwnEnds p.tables e below _ (T2.setTop (mkF m 9 #[.val (.ref a0), .unset, .unset, .unset, .unset, .unset] [(.int (3 : Int32)), (.ref pos)]))
  refine own_via (fun t k => XS.iconst X2.here hx rfl (hb hby d3_9) k) ?_
  show OwnEnds p.tables e below _ (T2.setTop (mkF m 10 #[.val (.ref a0), .unset, .unset, .unset, .unset, .unset] [(.int (1 : Int32)), (.int (3 : Int32)), (.ref pos)]))
  refine own_via (fun t k => XS.isub X2.here hx rfl (hb hby d3_10) rfl k) ?_
  show OwnEnds p.tables e below _ (T2.setTop (mkF m 11 #[.val (.ref a0), .unset, .unset, .unset, .unset, .unset] [(.int (2 : Int32)), (.ref pos)]))
  refine own_via (own_ldI X2 hx hZ e2 A_pos (v := (.int q2)) 2 rfl rfl (g := (mkF m 11 #[.val (.ref a0), .unset, .unset, .unset, .unset, .unset] [(.int (2 : Int32)), (.ref pos)])) rfl rfl (hb hby d3_11)) ?_
  show OwnEnds p.tables e below _ (T2.setTop (mkF m 12 #[.val (.ref a0), .unset, .unset, .unset, .unset, .unset] [(.int q2)]))
  refine own_via (fun t k => XS.bipush X2.here hx rfl (hb hby d3_12) k) ?_
  show OwnEnds p.tables e below _ (T2.setTop (mkF m 14 #[.val (.ref a0), .unset, .unset, .unset, .unset, .unset] [(.int (8 : Int32)), (.int q2)]))
  refine own_via (fun t k => XS.idiv X2.here hx rfl (hb hby d3_14) rfl (by decide) k) ?_
  show OwnEnds p.tables e below _ (T2.setTop (mkF m 15 #[.val (.ref a0), .unset, .unset, .unset, .unset, .unset] [(.int (q2 / (8 : Int32)))]))
  refine own_via (fun t k => XS.iconst X2.here hx rfl (hb hby d3_15) k) ?_
  show OwnEnds p.tables e below _ (T2.setTop (mkF m 16 #[.val (.ref a0), .unset, .unset, .unset, .unset, .unset] [(.int (1 : Int32)), (.int (q2 / (8 : Int32)))]))
  refine own_via (fun t k => XS.iadd X2.here hx rfl (hb hby d3_16) rfl k) ?_
  show OwnEnds p.tables e below _ (T2.setTop (mkF m 17 #[.val (.ref a0), .unset, .unset, .unset, .unset, .unset] [(.int ((q2 / (8 : Int32)) + (1 : Int32)))]))
  obtain ⟨T3, h3, k3, X3, e3, E3, A3, st3⟩ := newP X2 hx hZ (hw _ (List.mem_of_getElem? (i := 21) rfl)) e2 (g := (mkF m 17 #[.val (.ref a0), .unset, .unset, .unset, .unset, .unset] [(.int ((q2 / (8 : Int32)) + (1 : Int32)))])) rfl (hb hby d3_17) rfl (own_neg hq2) (cap := 8192) (by rw [own_clamp hq2]; exact (own_tl hq2).2) (by decide) (by decide) (by decide)
  obtain ⟨b3, g3⟩ : ∃ z, z = h0.size := ⟨_, rfl⟩
  rw [← g3] at A3 st3
  have ne_a0_b3 : a0 ≠ b3 := Nat.ne_of_lt (Nat.lt_of_lt_of_le E_a0.lt (Nat.le_of_eq g3.symm))
  have ne_pos_b3 : pos ≠ b3 := Nat.ne_of_lt (Nat.lt_of_lt_of_le A_pos.lt (Nat.le_of_eq g3.symm))
  have g_b3 : n0 ≤ b3 := Nat.le_trans Z0 (Nat.le_of_eq g3.symm)
  have sz_b3 : h0.size ≤ b3 := Nat.le_trans K0.1 (Nat.le_of_eq g3.symm)
  have Zs_3 : n0 ≤ _ := Nat.le_trans Z0 E3.1
  replace E_a0 := E_a0.ext E3
  replace F_pos := F_pos.ext E3
  replace A_pos := A_pos.ext E3
  replace K0 := K0.ext E3
  have A_b3 : AL Z h3 b3 .byte (List.replicate ((q2 / 8).toNatClampNeg + 1) (.int (0 : Int32))) := AL.new A3 (own_neg hq2) (i := ((q2 / 8).toNatClampNeg + 1)) (own_clamp hq2)
  refine own_via st3 ?_
  show OwnEnds p.tables e below _ (T3.setTop (mkF m 19 #[.val (.ref a0), .unset, .unset, .unset, .unset, .unset] [(.ref b3)]))
  rw [own_bl0] at A_b3
  refine own_via (fun t k => XS.astoreN X3.here hx rfl (hb hby d3_19) rfl rfl (l' := #[.val (.ref a0), .val (.ref b3), .unset, .unset, .unset, .unset]) rfl k) ?_
  show OwnEnds p.tables e below _ (T3.setTop (mkF m 20 #[.val (.ref a0), .val (.ref b3), .unset, .unset, .unset, .unset] []))
  refine own_via (fun t k => XS.aloadN X3.here hx rfl (hb hby d3_20) rfl rfl k) ?_
  show OwnEnds p.tables e below _ (T3.setTop (mkF m 21 #[.val (.ref a0), .val (.ref b3), .unset, .unset, .unset, .unset] [(.ref a0)]))
  obtain ⟨T4, X4, e4, st4⟩ := getF X3 hx hZ hown (host := "") (Or.inl (hw _ (List.mem_of_getElem? (i := 14) rfl))) Via.refl e3 F_pos (g := (mkF m 21 #[.val (.ref a0), .val (.ref b3), .unset, .unset, .unset, .unset] [(.ref a0)])) rfl rfl (hb hby d3_21)
  refine own_via st4 ?_
  show OwnEnds p.tables e below _ (T4.setTop (mkF m 24 #[.val (.ref a0), .val (.ref b3), .unset, .unset, .unset, .unset] [(.ref pos)]))
  refine own_via (fun t k => XS.astoreN X4.here hx rfl (hb hby d3_24) rfl rfl (l' := #[.val (.ref a0), .val (.ref b3), .val (.ref pos), .unset, .unset, .unset]) rfl k) ?_
  show OwnEnds p.tables e below _ (T4.setTop (mkF m 25 #[.val (.ref a0), .val (.ref b3), .val (.ref pos), .unset, .unset, .unset] []))
  refine own_via (fun t k => XS.aloadN X4.here hx rfl (hb hby d3_25) rfl rfl k) ?_
  show OwnEnds p.tables e below _ (T4.setTop (mkF m 26 #[.val (.ref a0), .val (.ref b3), .val (.ref pos), .unset, .unset, .unset] [(.ref pos)]))
  refine own_via (own_len X4 hx hZ e4 A_pos (z := (3 : Int32)) rfl (g := (mkF m 26 #[.val (.ref a0), .val (.ref b3), .val (.ref pos), .unset, .unset, .unset] [(.ref pos)])) rfl rfl (hb hby d3_26)) ?_
  show OwnEnds p.tables e below _ (T4.setTop (mkF m 27 #[.val (.ref a0), .val (.ref b3), .val (.ref pos), .unset, .unset, .unset] [(.int (3 : Int32))]))
  refine own_via (fun t k => XS.istoreN X4.here hx rfl (hb hby d3_27) rfl (l' := #[.val (.ref a0), .val (.ref b3), .val (.ref pos), .val (.int (3 : Int32)), .unset, .unset]) rfl k) ?_
  show OwnEnds p.tables e below _ (T4.setTop (mkF m 28 #[.val (.ref a0), .val (.ref b3), .val (.ref pos), .val (.int (3 : Int32)), .unset, .unset] []))
  refine own_via (fun t k => XS.iconst X4.here hx rfl (hb hby d3_28) k) ?_
  show OwnEnds p.tables e below _ (T4.setTop (mkF m 29 #[.val (.ref a0), .val (.ref b3), .val (.ref pos), .val (.int (3 : Int32)), .unset, .unset] [(.int (0 : Int32))]))
  refine own_via (fun t k => XS.istore X4.here hx rfl (hb hby d3_29) rfl (l' := #[.val (.ref a0), .val (.ref b3), .val (.ref pos), .val (.int (3 : Int32)), .val (.int (0 : Int32)), .unset]) rfl k) ?_
  show OwnEnds p.tables e below _ (T4.setTop (mkF m 31 #[.val (.ref a0), .val (.ref b3), .val (.ref pos), .val (.int (3 : Int32)), .val (.int (0 : Int32)), .unset] []))
  refine own_via (fun t k => XS.iload X4.here hx rfl (hb hby d3_31) rfl k) ?_
  show OwnEnds p.tables e below _ (T4.setTop (mkF m 33 #[.val (.ref a0), .val (.ref b3), .val (.ref pos), .val (.int (3 : Int32)), .val (.int (0 : Int32)), .unset] [(.int (0 : Int32))]))
  refine own_via (fun t k => XS.iloadN X4.here hx rfl (hb hby d3_33) rfl k) ?_
  show OwnEnds p.tables e below _ (T4.setTop (mkF m 34 #[.val (.ref a0), .val (.ref b3), .val (.ref pos), .val (.int (3 : Int32)), .val (.int (0 : Int32)), .unset] [(.int (3 : Int32)), (.int (0 : Int32))]))
  have hc34_5 : (0 : Int32) < (3 : Int32) := by decide
  refine own_via (fun t k => XS.icmpNo X4.here hx rfl (hb hby d3_34) rfl (tlt hc34_5).2.1 k) ?_
  show OwnEnds p.tables e below _ (T4.setTop (mkF m 37 #[.val (.ref a0), .val (.ref b3), .val (.ref pos), .val (.int (3 : Int32)), .val (.int (0 : Int32)), .unset] []))
  refine own_via (fun t k => XS.aloadN X4.here hx rfl (hb hby d3_37) rfl rfl k) ?_
  show OwnEnds p.tables e below _ (T4.setTop (mkF m 38 #[.val (.ref a0), .val (.ref b3), .val (.ref pos), .val (.int (3 : Int32)), .val (.int (0 : Int32)), .unset] [(.ref pos)]))
  refine own_via (fun t k => XS.iload X4.here hx rfl (hb hby d3_38) rfl k) ?_
  show OwnEnds p.tables e below _ (T4.setTop (mkF m 40 #[.val (.ref a0), .val (.ref b3), .val (.ref pos), .val (.int (3 : Int32)), .val (.int (0 : Int32)), .unset] [(.int (0 : Int32)), (.ref pos)]))
  refine own_via (own_ldI X4 hx hZ e4 A_pos (v := (.int q0)) 0 rfl rfl (g := (mkF m 40 #[.val (.ref a0), .val (.ref b3), .val (.ref pos), .val (.int (3 : Int32)), .val (.int (0 : Int32)), .unset] [(.int (0 : Int32)), (.ref pos)])) rfl rfl (hb hby d3_40)) ?_
  show OwnEnds p.tables e below _ (T4.setTop (mkF m 41 #[.val (.ref a0), .val (.ref b3), .val (.ref pos), .val (.int (3 : Int32)), .val (.int (0 : Int32)), .unset] [(.int q0)]))
  refine own_via (fun t k => XS.istore X4.here hx rfl (hb hby d3_41) rfl (l' := #[.val (.ref a0), .val (.ref b3), .val (.ref pos), .val (.int (3 : Int32)), .val (.int (0 : Int32)), .val (.int q0)]) rfl k) ?_
  show OwnEnds p.tables e below _ (T4.setTop (mkF m 43 #[.val (.ref a0), .val (.ref b3), .val (.ref pos), .val (.int (3 : Int32)), .val (.int (0 : Int32)), .val (.int q0)] []))
  refine own_via (fun t k => XS.aloadN X4.here hx rfl (hb hby d3_43) rfl rfl k) ?_
  show OwnEnds p.tables e below _ (T4.setTop (mkF m 44 #[.val (.ref a0), .val (.ref b3), .val (.ref pos), .val (.int (3 : Int32)), .val (.int (0 : Int32)), .val (.int q0)] [(.ref b3)]))
  refine own_via (fun t k => XS.iload X4.here hx rfl (hb hby d3_44) rfl k) ?_
  show OwnEnds p.tables e below _ (T4.setTop (mkF m 46 #[.val (.ref a0), .val (.ref b3), .val (.ref pos), .val (.int (3 : Int32)), .val (.int (0 : Int32)), .val (.int q0)] [(.int q0), (.ref b3)]))
  refine own_via (fun t k => XS.bipush X4.here hx rfl (hb hby d3_46) k) ?_
  show OwnEnds p.tables e below _ (T4.setTop (mkF m 48 #[.val (.ref a0), .val (.ref b3), .val (.ref pos), .val (.int (3 : Int32)), .val (.int (0 : Int32)), .val (.int q0)] [(.int (8 : Int32)), (.int q0), (.ref b3)]))
  refine own_via (fun t k => XS.idiv X4.here hx rfl (hb hby d3_48) rfl (by decide) k) ?_
  show OwnEnds p.tables e below _ (T4.setTop (mkF m 49 #[.val (.ref a0), .val (.ref b3), .val (.ref pos), .val (.int (3 : Int32)), .val (.int (0 : Int32)), .val (.int q0)] [(.int (q0 / (8 : Int32))), (.ref b3)]))
  refine own_via (U' := T4.setTop (mkF m 50 #[.val (.ref a0), .val (.ref b3), .val (.ref pos), .val (.int (3 : Int32)), .val (.int (0 : Int32)), .val (.int q0)] [(.int (q0 / (8 : Int32))), (.ref b3), (.int (q0 / (8 : Int32))), (.ref b3)])) (fun t k => ?_) ?_
  · show Steps p.tables e below (T4.setTop (mkF m 49 #[.val (.ref a0), .val (.ref b3), .val (.ref pos), .val (.int (3 : Int32)), .val (.int (0 : Int32)), .val (.int q0)] [(.int (q0 / (8 : Int32))), (.ref b3)])) t
    jvm_step X4.here [X4.here.top, hx, (hb hby d3_49), Value.category]
    exact k
  refine own_via (own_ldB X4 hx hZ e4 A_b3 (v := (.int (own_g [] ((q0 / 8).toNatClampNeg)))) ((q0 / 8).toNatClampNeg) (own_d8 hq0).1 (own_bat [] (by have := own_lt hq0 hq2 hle_q0 []; rwa [own_bll] at this)) (g := (mkF m 50 #[.val (.ref a0), .val (.ref b3), .val (.ref pos), .val (.int (3 : Int32)), .val (.int (0 : Int32)), .val (.int q0)] [(.int (q0 / (8 : Int32))), (.ref b3), (.int (q0 / (8 : Int32))), (.ref b3)])) rfl rfl (hb hby d3_50)) ?_
  show OwnEnds p.tables e below _ (T4.setTop (mkF m 51 #[.val (.ref a0), .val (.ref b3), .val (.ref pos), .val (.int (3 : Int32)), .val (.int (0 : Int32)), .val (.int q0)] [(.int (own_g [] ((q0 / 8).toNatClampNeg))), (.int (q0 / (8 : Int32))), (.ref b3)]))
  refine own_via (fun t k => XS.sipush X4.here hx rfl (hb hby d3_51) k) ?_
  show OwnEnds p.tables e below _ (T4.setTop (mkF m 54 #[.val (.ref a0), .val (.ref b3), .val (.ref pos), .val (.int (3 : Int32)), .val (.int (0 : Int32)), .val (.int q0)] [(.int (128 : Int32)), (.int (own_g [] ((q0 / 8).toNatClampNeg))), (.int (q0 / (8 : Int32))), (.ref b3)]))
  refine own_via (fun t k => XS.iload X4.here hx rfl (hb hby d3_54) rfl k) ?_
  show OwnEnds p.tables e below _ (T4.setTop (mkF m 56 #[.val (.ref a0), .val (.ref b3), .val (.ref pos), .val (.int (3 : Int32)), .val (.int (0 : Int32)), .val (.int q0)] [(.int q0), (.int (128 : Int32)), (.int (own_g [] ((q0 / 8).toNatClampNeg))), (.int (q0 / (8 : Int32))), (.ref b3)]))
  refine own_via (fun t k => XS.bipush X4.here hx rfl (hb hby d3_56) k) ?_
  show OwnEnds p.tables e below _ (T4.setTop (mkF m 58 #[.val (.ref a0), .val (.ref b3), .val (.ref pos), .val (.int (3 : Int32)), .val (.int (0 : Int32)), .val (.int q0)] [(.int (8 : Int32)), (.int q0), (.int (128 : Int32)), (.int (own_g [] ((q0 / 8).toNatClampNeg))), (.int (q0 / (8 : Int32))), (.ref b3)]))
  refine own_via (fun t k => Jvm.RoadKit.iremM X4 hx rfl (hb hby d3_58) rfl (by decide) k) ?_
  show OwnEnds p.tables e below _ (T4.setTop (mkF m 59 #[.val (.ref a0), .val (.ref b3), .val (.ref pos), .val (.int (3 : Int32)), .val (.int (0 : Int32)), .val (.int q0)] [(.int (q0 % (8 : Int32))), (.int (128 : Int32)), (.int (own_g [] ((q0 / 8).toNatClampNeg))), (.int (q0 / (8 : Int32))), (.ref b3)]))
  refine own_via (fun t k => XS.iushr X4.here hx rfl (hb hby d3_59) rfl k) ?_
  show OwnEnds p.tables e below _ (T4.setTop (mkF m 60 #[.val (.ref a0), .val (.ref b3), .val (.ref pos), .val (.int (3 : Int32)), .val (.int (0 : Int32)), .val (.int q0)] [(.int (((128 : Int32).toUInt32 >>> ((q0 % (8 : Int32)) &&& 31).toUInt32).toInt32)), (.int (own_g [] ((q0 / 8).toNatClampNeg))), (.int (q0 / (8 : Int32))), (.ref b3)]))
  refine own_via (fun t k => XS.i2b X4.here hx rfl (hb hby d3_60) rfl k) ?_
  show OwnEnds p.tables e below _ (T4.setTop (mkF m 61 #[.val (.ref a0), .val (.ref b3), .val (.ref pos), .val (.int (3 : Int32)), .val (.int (0 : Int32)), .val (.int q0)] [(.int ((((128 : Int32).toUInt32 >>> ((q0 % (8 : Int32)) &&& 31).toUInt32).toInt32).toInt8.toInt32)), (.int (own_g [] ((q0 / 8).toNatClampNeg))), (.int (q0 / (8 : Int32))), (.ref b3)]))
  refine own_via (fun t k => XS.ior X4.here hx rfl (hb hby d3_61) rfl k) ?_
  show OwnEnds p.tables e below _ (T4.setTop (mkF m 62 #[.val (.ref a0), .val (.ref b3), .val (.ref pos), .val (.int (3 : Int32)), .val (.int (0 : Int32)), .val (.int q0)] [(.int ((own_g [] ((q0 / 8).toNatClampNeg)) ||| ((((128 : Int32).toUInt32 >>> ((q0 % (8 : Int32)) &&& 31).toUInt32).toInt32).toInt8.toInt32))), (.int (q0 / (8 : Int32))), (.ref b3)]))
  refine own_via (fun t k => XS.i2b X4.here hx rfl (hb hby d3_62) rfl k) ?_
  show OwnEnds p.tables e below _ (T4.setTop (mkF m 63 #[.val (.ref a0), .val (.ref b3), .val (.ref pos), .val (.int (3 : Int32)), .val (.int (0 : Int32)), .val (.int q0)] [(.int (((own_g [] ((q0 / 8).toNatClampNeg)) ||| ((((128 : Int32).toUInt32 >>> ((q0 % (8 : Int32)) &&& 31).toUInt32).toInt32).toInt8.toInt32)).toInt8.toInt32)), (.int (q0 / (8 : Int32))), (.ref b3)]))
  obtain ⟨T6, h6, X6, e6, W6, AA6, st6⟩ := own_stB X4 hx hZ e4 A_b3 ((q0 / 8).toNatClampNeg) (own_d8 hq0).1 (own_lt hq0 hq2 hle_q0 _) (g := (mkF m 63 #[.val (.ref a0), .val (.ref b3), .val (.ref pos), .val (.int (3 : Int32)), .val (.int (0 : Int32)), .val (.int q0)] [(.int (((own_g [] ((q0 / 8).toNatClampNeg)) ||| ((((128 : Int32).toUInt32 >>> ((q0 % (8 : Int32)) &&& 31).toUInt32).toInt32).toInt8.toInt32)).toInt8.toInt32)), (.int (q0 / (8 : Int32))), (.ref b3)])) rfl rfl (hb hby d3_63)
  replace E_a0 := E_a0.wr W6
  replace F_pos := F_pos.other W6 (Or.inl ne_a0_b3)
  replace A_pos := A_pos.other W6 ne_pos_b3
  replace K0 := K0.wr W6 (Or.inr sz_b3)
  have Zs_W6 : n0 ≤ _ := Nat.le_trans Zs_3 (Keep.of_wr W6).1
  replace A_b3 : AL Z h6 b3 .byte ((own_bl ((q2 / 8).toNatClampNeg + 1) []).set ((q0 / 8).toNatClampNeg) (.int (nar .byte (((own_g [] ((q0 / 8).toNatClampNeg)) ||| ((((128 : Int32).toUInt32 >>> ((q0 % (8 : Int32)) &&& 31).toUInt32).toInt32).toInt8.toInt32)).toInt8.toInt32)))) := AA6
  have N6 := Fr.snoc X6 N0 g_b3
  refine own_via st6 ?_
  show OwnEnds p.tables e below _ (T6.setTop (mkF m 64 #[.val (.ref a0), .val (.ref b3), .val (.ref pos), .val (.int (3 : Int32)), .val (.int (0 : Int32)), .val (.int q0)] []))
  replace A_b3 : AL Z h6 b3 .byte (own_bl ((q2 / 8).toNatClampNeg + 1) [q0]) := own_cast (own_blset ((q2 / 8).toNatClampNeg + 1) [] q0 _ rfl) A_b3
  refine own_via (fun t k => XS.iinc X6.here hx rfl (hb hby d3_64) rfl (l' := #[.val (.ref a0), .val (.ref b3), .val (.ref pos), .val (.int (3 : Int32)), .val (.int (1 : Int32)), .val (.int q0)]) rfl k) ?_
  show OwnEnds p.tables e below _ (T6.setTop (mkF m 67 #[.val (.ref a0), .val (.ref b3), .val (.ref pos), .val (.int (3 : Int32)), .val (.int (1 : Int32)), .val (.int q0)] []))
  refine own_via (fun t k => XS.goto X6.here hx rfl (pc0 := 67) (pc' := 31) rfl (hb hby d3_67) (by decide) (by decide) k) ?_
  show OwnEnds p.tables e below _ (T6.setTop (mkF m 31 #[.val (.ref a0), .val (.ref b3), .val (.ref pos), .val (.int (3 : Int32)), .val (.int (1 : Int32)), .val (.int q0)] []))
  refine own_via (fun t k => XS.iload X6.here hx rfl (hb hby d3_31) rfl k) ?_
  show OwnEnds p.tables e below _ (T6.setTop (mkF m 33 #[.val (.ref a0), .val (.ref b3), .val (.ref pos), .val (.int (3 : Int32)), .val (.int (1 : Int32)), .val (.int q0)] [(.int (1 : Int32))]))
  refine own_via (fun t k => XS.iloadN X6.here hx rfl (hb hby d3_33) rfl k) ?_
  show OwnEnds p.tables e below _ (T6.setTop (mkF m 34 #[.val (.ref a0), .val (.ref b3), .val (.ref pos), .val (.int (3 : Int32)), .val (.int (1 : Int32)), .val (.int q0)] [(.int (3 : Int32)), (.int (1 : Int32))]))
  have hc34_7 : (1 : Int32) < (3 : Int32) := by decide
  refine own_via (fun t k => XS.icmpNo X6.here hx rfl (hb hby d3_34) rfl (tlt hc34_7).2.1 k) ?_
  show OwnEnds p.tables e below _ (T6.setTop (mkF m 37 #[.val (.ref a0), .val (.ref b3), .val (.ref pos), .val (.int (3 : Int32)), .val (.int (1 : Int32)), .val (.int q0)] []))
  refine own_via (fun t k => XS.aloadN X6.here hx rfl (hb hby d3_37) rfl rfl k) ?_
  show OwnEnds p.tables e below _ (T6.setTop (mkF m 38 #[.val (.ref a0), .val (.ref b3), .val (.ref pos), .val (.int (3 : Int32)), .val (.int (1 : Int32)), .val (.int q0)] [(.ref pos)]))
  refine own_via (fun t k => XS.iload X6.here hx rfl (hb hby d3_38) rfl k) ?_
  show OwnEnds p.tables e below _ (T6.setTop (mkF m 40 #[.val (.ref a0), .val (.ref b3), .val (.ref pos), .val (.int (3 : Int32)), .val (.int (1 : Int32)), .val (.int q0)] [(.int (1 : Int32)), (.ref pos)]))
  refine own_via (own_ldI X6 hx hZ e6 A_pos (v := (.int q1)) 1 rfl rfl (g := (mkF m 40 #[.val (.ref a0), .val (.ref b3), .val (.ref pos), .val (.int (3 : Int32)), .val (.int (1 : Int32)), .val (.int q0)] [(.int (1 : Int32)), (.ref pos)])) rfl rfl (hb hby d3_40)) ?_
  show OwnEnds p.tables e below _ (T6.setTop (mkF m 41 #[.val (.ref a0), .val (.ref b3), .val (.ref pos), .val (.int (3 : Int32)), .val (.int (1 : Int32)), .val (.int q0)] [(.int q1)]))
  refine own_via (fun t k => XS.istore X6.here hx rfl (hb hby d3_41) rfl (l' := #[.val (.ref a0), .val (.ref b3), .val (.ref pos), .val (.int (3 : Int32)), .val (.int (1 : Int32)), .val (.int q1)]) rfl k) ?_
  show OwnEnds p.tables e below _ (T6.setTop (mkF m 43 #[.val (.ref a0), .val (.ref b3), .val (.ref pos), .val (.int (3 : Int32)), .val (.int (1 : Int32)), .val (.int q1)] []))
  refine own_via (fun t k => XS.aloadN X6.here hx rfl (hb hby d3_43) rfl rfl k) ?_
  show OwnEnds p.tables e below _ (T6.setTop (mkF m 44 #[.val (.ref a0), .val (.ref b3), .val (.ref pos), .val (.int (3 : Int32)), .val (.int (1 : Int32)), .val (.int q1)] [(.ref b3)]))
  refine own_via (fun t k => XS.iload X6.here hx rfl (hb hby d3_44) rfl k) ?_
  show OwnEnds p.tables e below _ (T6.setTop (mkF m 46 #[.val (.ref a0), .val (.ref b3), .val (.ref pos), .val (.int (3 : Int32)), .val (.int (1 : Int32)), .val (.int q1)] [(.int q1), (.ref b3)]))
  refine own_via (fun t k => XS.bipush X6.here hx rfl (hb hby d3_46) k) ?_
  show OwnEnds p.tables e below _ (T6.setTop (mkF m 48 #[.val (.ref a0), .val (.ref b3), .val (.ref pos), .val (.int (3 : Int32)), .val (.int (1 : Int32)), .val (.int q1)] [(.int (8 : Int32)), (.int q1), (.ref b3)]))
  refine own_via (fun t k => XS.idiv X6.here hx rfl (hb hby d3_48) rfl (by decide) k) ?_
  show OwnEnds p.tables e below _ (T6.setTop (mkF m 49 #[.val (.ref a0), .val (.ref b3), .val (.ref pos), .val (.int (3 : Int32)), .val (.int (1 : Int32)), .val (.int q1)] [(.int (q1 / (8 : Int32))), (.ref b3)]))
  refine own_via (U' := T6.setTop (mkF m 50 #[.val (.ref a0), .val (.ref b3), .val (.ref pos), .val (.int (3 : Int32)), .val (.int (1 : Int32)), .val (.int q1)] [(.int (q1 / (8 : Int32))), (.ref b3), (.int (q1 / (8 : Int32))), (.ref b3)])) (fun t k => ?_) ?_
  · show Steps p.tables e below (T6.setTop (mkF m 49 #[.val (.ref a0), .val (.ref b3), .val (.ref pos), .val (.int (3 : Int32)), .val (.int (1 : Int32)), .val (.int q1)] [(.int (q1 / (8 : Int32))), (.ref b3)])) t
    jvm_step X6.here [X6.here.top, hx, (hb hby d3_49), Value.category]
    exact k
  refine own_via (own_ldB X6 hx hZ e6 A_b3 (v := (.int (own_g [q0] ((q1 / 8).toNatClampNeg)))) ((q1 / 8).toNatClampNeg) (own_d8 hq1).1 (own_bat [q0] (by have := own_lt hq1 hq2 hle_q1 [q0]; rwa [own_bll] at this)) (g := (mkF m 50 #[.val (.ref a0), .val (.ref b3), .val (.ref pos), .val (.int (3 : Int32)), .val (.int (1 : Int32)), .val (.int q1)] [(.int (q1 / (8 : Int32))), (.ref b3), (.int (q1 / (8 : Int32))), (.ref b3)])) rfl rfl (hb hby d3_50)) ?_
  show OwnEnds p.tables e below _ (T6.setTop (mkF m 51 #[.val (.ref a0), .val (.ref b3), .val (.ref pos), .val (.int (3 : Int32)), .val (.int (1 : Int32)), .val (.int q1)] [(.int (own_g [q0] ((q1 / 8).toNatClampNeg))), (.int (q1 / (8 : Int32))), (.ref b3)]))
  refine own_via (fun t k => XS.sipush X6.here hx rfl (hb hby d3_51) k) ?_
  show OwnEnds p.tables e below _ (T6.setTop (mkF m 54 #[.val (.ref a0), .val (.ref b3), .val (.ref pos), .val (.int (3 : Int32)), .val (.int (1 : Int32)), .val (.int q1)] [(.int (128 : Int32)), (.int (own_g [q0] ((q1 / 8).toNatClampNeg))), (.int (q1 / (8 : Int32))), (.ref b3)]))
  refine own_via (fun t k => XS.iload X6.here hx rfl (hb hby d3_54) rfl k) ?_
  show OwnEnds p.tables e below _ (T6.setTop (mkF m 56 #[.val (.ref a0), .val (.ref b3), .val (.ref pos), .val (.int (3 : Int32)), .val (.int (1 : Int32)), .val (.int q1)] [(.int q1), (.int (128 : Int32)), (.int (own_g [q0] ((q1 / 8).toNatClampNeg))), (.int (q1 / (8 : Int32))), (.ref b3)]))
  refine own_via (fun t k => XS.bipush X6.here hx rfl (hb hby d3_56) k) ?_
  show OwnEnds p.tables e below _ (T6.setTop (mkF m 58 #[.val (.ref a0), .val (.ref b3), .val (.ref pos), .val (.int (3 : Int32)), .val (.int (1 : Int32)), .val (.int q1)] [(.int (8 : Int32)), (.int q1), (.int (128 : Int32)), (.int (own_g [q0] ((q1 / 8).toNatClampNeg))), (.int (q1 / (8 : Int32))), (.ref b3)]))
  refine own_via (fun t k => Jvm.RoadKit.iremM X6 hx rfl (hb hby d3_58) rfl (by decide) k) ?_
  show OwnEnds p.tables e below _ (T6.setTop (mkF m 59 #[.val (.ref a0), .val (.ref b3), .val (.ref pos), .val (.int (3 : Int32)), .val (.int (1 : Int32)), .val (.int q1)] [(.int (q1 % (8 : Int32))), (.int (128 : Int32)), (.int (own_g [q0] ((q1 / 8).toNatClampNeg))), (.int (q1 / (8 : Int32))), (.ref b3)]))
  refine own_via (fun t k => XS.iushr X6.here hx rfl (hb hby d3_59) rfl k) ?_
  show OwnEnds p.tables e below _ (T6.setTop (mkF m 60 #[.val (.ref a0), .val (.ref b3), .val (.ref pos), .val (.int (3 : Int32)), .val (.int (1 : Int32)), .val (.int q1)] [(.int (((128 : Int32).toUInt32 >>> ((q1 % (8 : Int32)) &&& 31).toUInt32).toInt32)), (.int (own_g [q0] ((q1 / 8).toNatClampNeg))), (.int (q1 / (8 : Int32))), (.ref b3)]))
  refine own_via (fun t k => XS.i2b X6.here hx rfl (hb hby d3_60) rfl k) ?_
  show OwnEnds p.tables e below _ (T6.setTop (mkF m 61 #[.val (.ref a0), .val (.ref b3), .val (.ref pos), .val (.int (3 : Int32)), .val (.int (1 : Int32)), .val (.int q1)] [(.int ((((128 : Int32).toUInt32 >>> ((q1 % (8 : Int32)) &&& 31).toUInt32).toInt32).toInt8.toInt32)), (.int (own_g [q0] ((q1 / 8).toNatClampNeg))), (.int (q1 / (8 : Int32))), (.ref b3)]))
  refine own_via (fun t k => XS.ior X6.here hx rfl (hb hby d3_61) rfl k) ?_
  show OwnEnds p.tables e below _ (T6.setTop (mkF m 62 #[.val (.ref a0), .val (.ref b3), .val (.ref pos), .val (.int (3 : Int32)), .val (.int (1 : Int32)), .val (.int q1)] [(.int ((own_g [q0] ((q1 / 8).toNatClampNeg)) ||| ((((128 : Int32).toUInt32 >>> ((q1 % (8 : Int32)) &&& 31).toUInt32).toInt32).toInt8.toInt32))), (.int (q1 / (8 : Int32))), (.ref b3)]))
  refine own_via (fun t k => XS.i2b X6.here hx rfl (hb hby d3_62) rfl k) ?_
  show OwnEnds p.tables e below _ (T6.setTop (mkF m 63 #[.val (.ref a0), .val (.ref b3), .val (.ref pos), .val (.int (3 : Int32)), .val (.int (1 : Int32)), .val (.int q1)] [(.int (((own_g [q0] ((q1 / 8).toNatClampNeg)) ||| ((((128 : Int32).toUInt32 >>> ((q1 % (8 : Int32)) &&& 31).toUInt32).toInt32).toInt8.toInt32)).toInt8.toInt32)), (.int (q1 / (8 : Int32))), (.ref b3)]))
  obtain ⟨T8, h8, X8, e8, W8, AA8, st8⟩ := own_stB X6 hx hZ e6 A_b3 ((q1 / 8).toNatClampNeg) (own_d8 hq1).1 (own_lt hq1 hq2 hle_q1 _) (g := (mkF m 63 #[.val (.ref a0), .val (.ref b3), .val (.ref pos), .val (.int (3 : Int32)), .val (.int (1 : Int32)), .val (.int q1)] [(.int (((own_g [q0] ((q1 / 8).toNatClampNeg)) ||| ((((128 : Int32).toUInt32 >>> ((q1 % (8 : Int32)) &&& 31).toUInt32).toInt32).toInt8.toInt32)).toInt8.toInt32)), (.int (q1 / (8 : Int32))), (.ref b3)])) rfl rfl (hb hby d3_63)
  replace E_a0 := E_a0.wr W8
  replace F_pos := F_pos.other W8 (Or.inl ne_a0_b3)
  replace A_pos := A_pos.other W8 ne_pos_b3
  replace K0 := K0.wr W8 (Or.inr sz_b3)
  have Zs_W8 : n0 ≤ _ := Nat.le_trans Zs_W6 (Keep.of_wr W8).1
  replace A_b3 : AL Z h8 b3 .byte ((own_bl ((q2 / 8).toNatClampNeg + 1) [q0]).set ((q1 / 8).toNatClampNeg) (.int (nar .byte (((own_g [q0] ((q1 / 8).toNatClampNeg)) ||| ((((128 : Int32).toUInt32 >>> ((q1 % (8 : Int32)) &&& 31).toUInt32).toInt32).toInt8.toInt32)).toInt8.toInt32)))) := AA8
  have N8 := Fr.snoc X8 N6 g_b3
  refine own_via st8 ?_
  show OwnEnds p.tables e below _ (T8.setTop (mkF m 64 #[.val (.ref a0), .val (.ref b3), .val (.ref pos), .val (.int (3 : Int32)), .val (.int (1 : Int32)), .val (.int q1)] []))
  replace A_b3 : AL Z h8 b3 .byte (own_bl ((q2 / 8).toNatClampNeg + 1) [q0, q1]) := own_cast (own_blset ((q2 / 8).toNatClampNeg + 1) [q0] q1 _ rfl) A_b3
  refine own_via (fun t k => XS.iinc X8.here hx rfl (hb hby d3_64) rfl (l' := #[.val (.ref a0), .val (.ref b3), .val (.ref pos), .val (.int (3 : Int32)), .val (.int (2 : Int32)), .val (.int q1)]) rfl k) ?_
  show OwnEnds p.tables e below _ (T8.setTop (mkF m 67 #[.val (.ref a0), .val (.ref b3), .val (.ref pos), .val (.int (3 : Int32)), .val (.int (2 : Int32)), .val (.int q1)] []))
  refine own_via (fun t k => XS.goto X8.here hx rfl (pc0 := 67) (pc' := 31) rfl (hb hby d3_67) (by decide) (by decide) k) ?_
  show OwnEnds p.tables e below _ (T8.setTop (mkF m 31 #[.val (.ref a0), .val (.ref b3), .val (.ref pos), .val (.int (3 : Int32)), .val (.int (2 : Int32)), .val (.int q1)] []))
  refine own_via (fun t k => XS.iload X8.here hx rfl (hb hby d3_31) rfl k) ?_
  show OwnEnds p.tables e below _ (T8.setTop (mkF m 33 #[.val (.ref a0), .val (.ref b3), .val (.ref pos), .val (.int (3 : Int32)), .val (.int (2 : Int32)), .val (.int q1)] [(.int (2 : Int32))]))
  refine own_via (fun t k => XS.iloadN X8.here hx rfl (hb hby d3_33) rfl k) ?_
  show OwnEnds p.tables e below _ (T8.setTop (mkF m 34 #[.val (.ref a0), .val (.ref b3), .val (.ref pos), .val (.int (3 : Int32)), .val (.int (2 : Int32)), .val (.int q1)] [(.int (3 : Int32)), (.int (2 : Int32))]))
  have hc34_9 : (2 : Int32) < (3 : Int32) := by decide
  refine own_via (fun t k => XS.icmpNo X8.here hx rfl (hb hby d3_34) rfl (tlt hc34_9).2.1 k) ?_
  show OwnEnds p.tables e below _ (T8.setTop (mkF m 37 #[.val (.ref a0), .val (.ref b3), .val (.ref pos), .val (.int (3 : Int32)), .val (.int (2 : Int32)), .val (.int q1)] []))
  refine own_via (fun t k => XS.aloadN X8.here hx rfl (hb hby d3_37) rfl rfl k) ?_
  show OwnEnds p.tables e below _ (T8.setTop (mkF m 38 #[.val (.ref a0), .val (.ref b3), .val (.ref pos), .val (.int (3 : Int32)), .val (.int (2 : Int32)), .val (.int q1)] [(.ref pos)]))
  refine own_via (fun t k => XS.iload X8.here hx rfl (hb hby d3_38) rfl k) ?_
  show OwnEnds p.tables e below _ (T8.setTop (mkF m 40 #[.val (.ref a0), .val (.ref b3), .val (.ref pos), .val (.int (3 : Int32)), .val (.int (2 : Int32)), .val (.int q1)] [(.int (2 : Int32)), (.ref pos)]))
  refine own_via (own_ldI X8 hx hZ e8 A_pos (v := (.int q2)) 2 rfl rfl (g := (mkF m 40 #[.val (.ref a0), .val (.ref b3), .val (.ref pos), .val (.int (3 : Int32)), .val (.int (2 : Int32)), .val (.int q1)] [(.int (2 : Int32)), (.ref pos)])) rfl rfl (hb hby d3_40)) ?_
  show OwnEnds p.tables e below _ (T8.setTop (mkF m 41 #[.val (.ref a0), .val (.ref b3), .val (.ref pos), .val (.int (3 : Int32)), .val (.int (2 : Int32)), .val (.int q1)] [(.int q2)]))
  refine own_via (fun t k => XS.istore X8.here hx rfl (hb hby d3_41) rfl (l' := #[.val (.ref a0), .val (.ref b3), .val (.ref pos), .val (.int (3 : Int32)), .val (.int (2 : Int32)), .val (.int q2)]) rfl k) ?_
  show OwnEnds p.tables e below _ (T8.setTop (mkF m 43 #[.val (.ref a0), .val (.ref b3), .val (.ref pos), .val (.int (3 : Int32)), .val (.int (2 : Int32)), .val (.int q2)] []))
  refine own_via (fun t k => XS.aloadN X8.here hx rfl (hb hby d3_43) rfl rfl k) ?_
  show OwnEnds p.tables e below _ (T8.setTop (mkF m 44 #[.val (.ref a0), .val (.ref b3), .val (.ref pos), .val (.int (3 : Int32)), .val (.int (2 : Int32)), .val (.int q2)] [(.ref b3)]))
  refine own_via (fun t k => XS.iload X8.here hx rfl (hb hby d3_44) rfl k) ?_
  show OwnEnds p.tables e below _ (T8.setTop (mkF m 46 #[.val (.ref a0), .val (.ref b3), .val (.ref pos), .val (.int (3 : Int32)), .val (.int (2 : Int32)), .val (.int q2)] [(.int q2), (.ref b3)]))
  refine own_via (fun t k => XS.bipush X8.here hx rfl (hb hby d3_46) k) ?_
  show OwnEnds p.tables e below _ (T8.setTop (mkF m 48 #[.val (.ref a0), .val (.ref b3), .val (.ref pos), .val (.int (3 : Int32)), .val (.int (2 : Int32)), .val (.int q2)] [(.int (8 : Int32)), (.int q2), (.ref b3)]))
  refine own_via (fun t k => XS.idiv X8.here hx rfl (hb hby d3_48) rfl (by decide) k) ?_
  show OwnEnds p.tables e below _ (T8.setTop (mkF m 49 #[.val (.ref a0), .val (.ref b3), .val (.ref pos), .val (.int (3 : Int32)), .val (.int (2 : Int32)), .val (.int q2)] [(.int (q2 / (8 : Int32))), (.ref b3)]))
  refine own_via (U' := T8.setTop (mkF m 50 #[.val (.ref a0), .val (.ref b3), .val (.ref pos), .val (.int (3 : Int32)), .val (.int (2 : Int32)), .val (.int q2)] [(.int (q2 / (8 : Int32))), (.ref b3), (.int (q2 / (8 : Int32))), (.ref b3)])) (fun t k => ?_) ?_
  · show Steps p.tables e below (T8.setTop (mkF m 49 #[.val (.ref a0), .val (.ref b3), .val (.ref pos), .val (.int (3 : Int32)), .val (.int (2 : Int32)), .val (.int q2)] [(.int (q2 / (8 : Int32))), (.ref b3)])) t
    jvm_step X8.here [X8.here.top, hx, (hb hby d3_49), Value.category]
    exact k
  refine own_via (own_ldB X8 hx hZ e8 A_b3 (v := (.int (own_g [q0, q1] ((q2 / 8).toNatClampNeg)))) ((q2 / 8).toNatClampNeg) (own_d8 hq2).1 (own_bat [q0, q1] (by have := own_lt hq2 hq2 hle_q2 [q0, q1]; rwa [own_bll] at this)) (g := (mkF m 50 #[.val (.ref a0), .val (.ref b3), .val (.ref pos), .val (.int (3 : Int32)), .val (.int (2 : Int32)), .val (.int q2)] [(.int (q2 / (8 : Int32))), (.ref b3), (.int (q2 / (8 : Int32))), (.ref b3)])) rfl rfl (hb hby d3_50)) ?_
  show OwnEnds p.tables e below _ (T8.setTop (mkF m 51 #[.val (.ref a0), .val (.ref b3), .val (.ref pos), .val (.int (3 : Int32)), .val (.int (2 : Int32)), .val (.int q2)] [(.int (own_g [q0, q1] ((q2 / 8).toNatClampNeg))), (.int (q2 / (8 : Int32))), (.ref b3)]))
  refine own_via (fun t k => XS.sipush X8.here hx rfl (hb hby d3_51) k) ?_
  show OwnEnds p.tables e below _ (T8.setTop (mkF m 54 #[.val (.ref a0), .val (.ref b3), .val (.ref pos), .val (.int (3 : Int32)), .val (.int (2 : Int32)), .val (.int q2)] [(.int (128 : Int32)), (.int (own_g [q0, q1] ((q2 / 8).toNatClampNeg))), (.int (q2 / (8 : Int32))), (.ref b3)]))
  refine own_via (fun t k => XS.iload X8.here hx rfl (hb hby d3_54) rfl k) ?_
  show OwnEnds p.tables e below _ (T8.setTop (mkF m 56 #[.val (.ref a0), .val (.ref b3), .val (.ref pos), .val (.int (3 : Int32)), .val (.int (2 : Int32)), .val (.int q2)] [(.int q2), (.int (128 : Int32)), (.int (own_g [q0, q1] ((q2 / 8).toNatClampNeg))), (.int (q2 / (8 : Int32))), (.ref b3)]))
  refine own_via (fun t k => XS.bipush X8.here hx rfl (hb hby d3_56) k) ?_
  show OwnEnds p.tables e below _ (T8.setTop (mkF m 58 #[.val (.ref a0), .val (.ref b3), .val (.ref pos), .val (.int (3 : Int32)), .val (.int (2 : Int32)), .val (.int q2)] [(.int (8 : Int32)), (.int q2), (.int (128 : Int32)), (.int (own_g [q0, q1] ((q2 / 8).toNatClampNeg))), (.int (q2 / (8 : Int32))), (.ref b3)]))
  refine own_via (fun t k => Jvm.RoadKit.iremM X8 hx rfl (hb hby d3_58) rfl (by decide) k) ?_
  show OwnEnds p.tables e below _ (T8.setTop (mkF m 59 #[.val (.ref a0), .val (.ref b3), .val (.ref pos), .val (.int (3 : Int32)), .val (.int (2 : Int32)), .val (.int q2)] [(.int (q2 % (8 : Int32))), (.int (128 : Int32)), (.int (own_g [q0, q1] ((q2 / 8).toNatClampNeg))), (.int (q2 / (8 : Int32))), (.ref b3)]))
  refine own_via (fun t k => XS.iushr X8.here hx rfl (hb hby d3_59) rfl k) ?_
  show OwnEnds p.tables e below _ (T8.setTop (mkF m 60 #[.val (.ref a0), .val (.ref b3), .val (.ref pos), .val (.int (3 : Int32)), .val (.int (2 : Int32)), .val (.int q2)] [(.int (((128 : Int32).toUInt32 >>> ((q2 % (8 : Int32)) &&& 31).toUInt32).toInt32)), (.int (own_g [q0, q1] ((q2 / 8).toNatClampNeg))), (.int (q2 / (8 : Int32))), (.ref b3)]))
  refine own_via (fun t k => XS.i2b X8.here hx rfl (hb hby d3_60) rfl k) ?_
  show OwnEnds p.tables e below _ (T8.setTop (mkF m 61 #[.val (.ref a0), .val (.ref b3), .val (.ref pos), .val (.int (3 : Int32)), .val (.int (2 : Int32)), .val (.int q2)] [(.int ((((128 : Int32).toUInt32 >>> ((q2 % (8 : Int32)) &&& 31).toUInt32).toInt32).toInt8.toInt32)), (.int (own_g [q0, q1] ((q2 / 8).toNatClampNeg))), (.int (q2 / (8 : Int32))), (.ref b3)]))
  refine own_via (fun t k => XS.ior X8.here hx rfl (hb hby d3_61) rfl k) ?_
  show OwnEnds p.tables e below _ (T8.setTop (mkF m 62 #[.val (.ref a0), .val (.ref b3), .val (.ref pos), .val (.int (3 : Int32)), .val (.int (2 : Int32)), .val (.int q2)] [(.int ((own_g [q0, q1] ((q2 / 8).toNatClampNeg)) ||| ((((128 : Int32).toUInt32 >>> ((q2 % (8 : Int32)) &&& 31).toUInt32).toInt32).toInt8.toInt32))), (.int (q2 / (8 : Int32))), (.ref b3)]))
  refine own_via (fun t k => XS.i2b X8.here hx rfl (hb hby d3_62) rfl k) ?_
  show OwnEnds p.tables e below _ (T8.setTop (mkF m 63 #[.val (.ref a0), .val (.ref b3), .val (.ref pos), .val (.int (3 : Int32)), .val (.int (2 : Int32)), .val (.int q2)] [(.int (((own_g [q0, q1] ((q2 / 8).toNatClampNeg)) ||| ((((128 : Int32).toUInt32 >>> ((q2 % (8 : Int32)) &&& 31).toUInt32).toInt32).toInt8.toInt32)).toInt8.toInt32)), (.int (q2 / (8 : Int32))), (.ref b3)]))
  obtain ⟨T10, h10, X10, e10, W10, AA10, st10⟩ := own_stB X8 hx hZ e8 A_b3 ((q2 / 8).toNatClampNeg) (own_d8 hq2).1 (own_lt hq2 hq2 hle_q2 _) (g := (mkF m 63 #[.val (.ref a0), .val (.ref b3), .val (.ref pos), .val (.int (3 : Int32)), .val (.int (2 : Int32)), .val (.int q2)] [(.int (((own_g [q0, q1] ((q2 / 8).toNatClampNeg)) ||| ((((128 : Int32).toUInt32 >>> ((q2 % (8 : Int32)) &&& 31).toUInt32).toInt32).toInt8.toInt32)).toInt8.toInt32)), (.int (q2 / (8 : Int32))), (.ref b3)])) rfl rfl (hb hby d3_63)
  replace E_a0 := E_a0.wr W10
  replace F_pos := F_pos.other W10 (Or.inl ne_a0_b3)
  replace A_pos := A_pos.other W10 ne_pos_b3
  replace K0 := K0.wr W10 (Or.inr sz_b3)
  have Zs_W10 : n0 ≤ _ := Nat.le_trans Zs_W8 (Keep.of_wr W10).1
  replace A_b3 : AL Z h10 b3 .byte ((own_bl ((q2 / 8).toNatClampNeg + 1) [q0, q1]).set ((q2 / 8).toNatClampNeg) (.int (nar .byte (((own_g [q0, q1] ((q2 / 8).toNatClampNeg)) ||| ((((128 : Int32).toUInt32 >>> ((q2 % (8 : Int32)) &&& 31).toUInt32).toInt32).toInt8.toInt32)).toInt8.toInt32)))) := AA10
  have N10 := Fr.snoc X10 N8 g_b3
  refine own_via st10 ?_
  show OwnEnds p.tables e below _ (T10.setTop (mkF m 64 #[.val (.ref a0), .val (.ref b3), .val (.ref pos), .val (.int (3 : Int32)), .val (.int (2 : Int32)), .val (.int q2)] []))
  replace A_b3 : AL Z h10 b3 .byte (own_bl ((q2 / 8).toNatClampNeg + 1) [q0, q1, q2]) := own_cast (own_blset ((q2 / 8).toNatClampNeg + 1) [q0, q1] q2 _ rfl) A_b3
  refine own_via (fun t k => XS.iinc X10.here hx rfl (hb hby d3_64) rfl (l' := #[.val (.ref a0), .val (.ref b3), .val (.ref pos), .val (.int (3 : Int32)), .val (.int (3 : Int32)), .val (.int q2)]) rfl k) ?_
  show OwnEnds p.tables e below _ (T10.setTop (mkF m 67 #[.val (.ref a0), .val (.ref b3), .val (.ref pos), .val (.int (3 : Int32)), .val (.int (3 : Int32)), .val (.int q2)] []))
  refine own_via (fun t k => XS.goto X10.here hx rfl (pc0 := 67) (pc' := 31) rfl (hb hby d3_67) (by decide) (by decide) k) ?_
  show OwnEnds p.tables e below _ (T10.setTop (mkF m 31 #[.val (.ref a0), .val (.ref b3), .val (.ref pos), .val (.int (3 : Int32)), .val (.int (3 : Int32)), .val (.int q2)] []))
  refine own_via (fun t k => XS.iload X10.here hx rfl (hb hby d3_31) rfl k) ?_
  show OwnEnds p.tables e below _ (T10.setTop (mkF m 33 #[.val (.ref a0), .val (.ref b3), .val (.ref pos), .val (.int (3 : Int32)), .val (.int (3 : Int32)), .val (.int q2)] [(.int (3 : Int32))]))
  refine own_via (fun t k => XS.iloadN X10.here hx rfl (hb hby d3_33) rfl k) ?_
  show OwnEnds p.tables e below _ (T10.setTop (mkF m 34 #[.val (.ref a0), .val (.ref b3), .val (.ref pos), .val (.int (3 : Int32)), .val (.int (3 : Int32)), .val (.int q2)] [(.int (3 : Int32)), (.int (3 : Int32))]))
  have hc34_11 : ¬ ((3 : Int32) < (3 : Int32)) := by decide
  refine own_via (fun t k => XS.icmpYes X10.here hx rfl (pc0 := 34) (pc' := 70) rfl (hb hby d3_34) rfl (flt hc34_11).2.1 (by decide) (by decide) k) ?_
  show OwnEnds p.tables e below _ (T10.setTop (mkF m 70 #[.val (.ref a0), .val (.ref b3), .val (.ref pos), .val (.int (3 : Int32)), .val (.int (3 : Int32)), .val (.int q2)] []))
  refine own_via (fun t k => XS.aloadN X10.here hx rfl (hb hby d3_70) rfl rfl k) ?_
  show OwnEnds p.tables e below _ (T10.setTop (mkF m 71 #[.val (.ref a0), .val (.ref b3), .val (.ref pos), .val (.int (3 : Int32)), .val (.int (3 : Int32)), .val (.int q2)] [(.ref b3)]))
  refine own_retA X10 hx Bd.returns rfl rfl hlk (hb hby d3_71) ?_ (by decide) (by decide)
  rw [e10]
  exact ⟨b3, rfl, N10, K0, sz_b3, A_b3⟩
theorem ef_53 (m : MethodId) (a0 : Addr) (p2 : Int32) : entryFrame m #[(.ref a0), (.int (3 : Int32)), (.int p2)] 4 = mkF m 0 #[.val (.ref a0), .val (.int (3 : Int32)), .val (.int p2), .unset] [] := by first | (simp [entryFrame, mkF, argsToLocals, Value.category]; done) | rfl
def Q53 (Z : State) (a0 : Addr) (p2 : Int32) (q0 : Int32) (q1 : Int32) (q2 : Int32) (h0 : Heap) (n0 : Nat) (v : Option Value) (h : Heap) (L : List Loc) : Prop := v = some (.int (((own_bi q0 p2) ||| (own_bi q1 p2)) ||| (own_bi q2 p2))) ∧ Fr n0 L ∧ h = h0
set_option maxRecDepth 65536 in
set_option maxHeartbeats 40000000 in
theorem rm53 (l : Launch) (Z : State) (aw : Array Value) (hw : ∀ d ∈ tables_1, d.before aw Z = true) (ws : List Jvm.Cond) (a0 : Addr) (p2 : Int32) (q0 : Int32) (q1 : Int32) (q2 : Int32) (h0 : Heap) (n0 : Nat) (Z0 : n0 ≤ h0.size) (A_a0 : AL Z h0 a0 .int [(.int q0), (.int q1), (.int q2)]) :
    MetFree l (⟨"com/example/crowd_cache/crowdcache/core/BucketToBitmapPinLaw", "expectedAt", "([III)I"⟩ : MethodName) (head1 (Jvm.Cond.code (⟨"com/example/crowd_cache/crowdcache/core/BucketToBitmapPinLaw", "expectedAt", "([III)I"⟩ : MethodName) method_4_code 4 (some .int) :: ws) ({ frames := 1, cells := 0, slots := 0, locals := 14 } : Room)) (fun a U => a = #[(.ref a0), (.int (3 : Int32)), (.int p2)] ∧ Z.Warmed39 U.vm ∧ U.heap = h0) (fun _ _ _ _ _ => True) (fun _ U o U' => ∃ v L, o = .returned v ∧ Q53 Z a0 p2 q0 q1 q2 h0 n0 v U'.heap L ∧ FrameEnd U o U' L ({ frames := 1, cells := 0, slots := 0, locals := 14 } : Room).cells ({ frames := 1, cells := 0, slots := 0, locals := 14 } : Room).slots) := by
  refine MetFree.of_bodySF (plainFor_of_name pn_1) hisR ?_
  intro p e s m args below meth c s₁ Bd hml0 hP hK
  obtain ⟨rfl, hZ, hh⟩ := hP
  have hx := Bd.exec
  have hby := Bd.bytes
  have hml : c.maxLocals = 4 := hml0
  have hown : s.vm.findClass "com/example/crowd_cache/crowdcache/core/BucketToBitmapPinLaw" = some m.cls := findClass_of_methodNamed Bd.named
  have hnm := (name_of_methodNamed Bd.named Bd.method).1
  have hlk : meth.locks = false := Bd.notSynchronized
  have X0 : Stand p l e ({ frames := 1, cells := 0, slots := 0, locals := 14 } : Room) s m #[(.ref a0), (.int (3 : Int32)), (.int p2)] below meth c s₁ [] 0 0 := Stand.of_body Bd
  have e0 : s₁.heap = h0 := by rw [← hh, Bd.state]; rfl
  have N0 := Fr.nil n0
  show OwnEnds p.tables e below (OwnQ s ({ frames := 1, cells := 0, slots := 0, locals := 14 } : Room).cells ({ frames := 1, cells := 0, slots := 0, locals := 14 } : Room).slots (Q53 Z a0 p2 q0 q1 q2 h0 n0)) (s₁.setTop (entryFrame m #[(.ref a0), (.int (3 : Int32)), (.int p2)] 4))
  refine own_via (fun t k => castTop (ef_53 m a0 p2) k) ?_
  show OwnEnds p.tables e below _ (s₁.setTop (mkF m 0 #[.val (.ref a0), .val (.int (3 : Int32)), .val (.int p2), .unset] []))
  refine own_via (fun t k => XS.aloadN X0.here hx rfl (hb hby d5_0) rfl rfl k) ?_
  show OwnEnds p.tables e below _ (s₁.setTop (mkF m 1 #[.val (.ref a0), .val (.int (3 : Int32)), .val (.int p2), .unset] [(.ref a0)]))
  refine own_via (fun t k => XS.iconst X0.here hx rfl (hb hby d5_1) k) ?_
  show OwnEnds p.tables e below _ (s₁.setTop (mkF m 2 #[.val (.ref a0), .val (.int (3 : Int32)), .val (.int p2), .unset] [(.int (0 : Int32)), (.ref a0)]))
  refine own_via (own_ldI X0 hx hZ e0 A_a0 (v := (.int q0)) 0 rfl rfl (g := (mkF m 2 #[.val (.ref a0), .val (.int (3 : Int32)), .val (.int p2), .unset] [(.int (0 : Int32)), (.ref a0)])) rfl rfl (hb hby d5_2)) ?_
  show OwnEnds p.tables e below _ (s₁.setTop (mkF m 3 #[.val (.ref a0), .val (.int (3 : Int32)), .val (.int p2), .unset] [(.int q0)]))
  refine own_via (fun t k => XS.iloadN X0.here hx rfl (hb hby d5_3) rfl k) ?_
  show OwnEnds p.tables e below _ (s₁.setTop (mkF m 4 #[.val (.ref a0), .val (.int (3 : Int32)), .val (.int p2), .unset] [(.int p2), (.int q0)]))
  obtain ⟨_, _, ⟨T1, L1, k1, n1⟩, -, X1, ⟨Lc1, hQ1, l1, y1, z1⟩, st1⟩ := Jvm.LawKit.callS X0 hx (y := (⟨"com/example/crowd_cache/crowdcache/core/BucketToBitmapPinLaw", "bitIn", "(II)I"⟩ : MethodName)) hown (mvT hZ (hw _ (List.mem_of_getElem? (i := 29) rfl))) (mvT hZ (hw _ (List.mem_of_getElem? (i := 30) rfl))) (mvT hZ (hw _ (List.mem_of_getElem? (i := 24) rfl))) (mvT hZ (hw _ (List.mem_of_getElem? (i := 31) rfl))) (by decide) (backOf (W := 0) (rm6 l Z aw hw [] q0 p2 h0 n0 Z0 ) hZ (hw _ (List.mem_of_getElem? (i := 31) rfl)) (hw _ (List.mem_of_getElem? (i := 24) rfl)) (by decide) (by decide)) (g := (mkF m 4 #[.val (.ref a0), .val (.int (3 : Int32)), .val (.int p2), .unset] [(.int p2), (.int q0)])) rfl (by rw [hml]; rfl) (argsL := [(.int q0), (.int p2)]) (rest := []) (lenOf pd_0 rfl) rfl (by show 2 * 0 + _ ≤ _; exact Nat.le_of_eq rfl) (hb hby d5_4) (fun _ _ => ⟨rfl, e0, (by decide : 0 + 0 ≤ _), (by decide : 0 + 0 ≤ _)⟩)
  dsimp only [Pt.U, Pt.locs, Pt.cells, Pt.slots] at X1 l1 y1 z1 st1 hQ1
  subst l1 y1 z1
  obtain ⟨rfl, Nq1, e1⟩ := hQ1
  have N1 := Fr.app N0 Nq1
  replace e1 : T1.heap = h0 := e1
  refine own_via st1 ?_
  show OwnEnds p.tables e below _ (T1.setTop (mkF m 7 #[.val (.ref a0), .val (.int (3 : Int32)), .val (.int p2), .unset] [(.int (own_bi q0 p2))]))
  refine own_via (fun t k => XS.istoreN X1.here hx rfl (hb hby d5_7) rfl (l' := #[.val (.ref a0), .val (.int (3 : Int32)), .val (.int p2), .val (.int (own_bi q0 p2))]) rfl k) ?_
  show OwnEnds p.tables e below _ (T1.setTop (mkF m 8 #[.val (.ref a0), .val (.int (3 : Int32)), .val (.int p2), .val (.int (own_bi q0 p2))] []))
  refine own_via (fun t k => XS.iloadN X1.here hx rfl (hb hby d5_8) rfl k) ?_
  show OwnEnds p.tables e below _ (T1.setTop (mkF m 9 #[.val (.ref a0), .val (.int (3 : Int32)), .val (.int p2), .val (.int (own_bi q0 p2))] [(.int (3 : Int32))]))
  refine own_via (fun t k => XS.iconst X1.here hx rfl (hb hby d5_9) k) ?_
  show OwnEnds p.tables e below _ (T1.setTop (mkF m 10 #[.val (.ref a0), .val (.int (3 : Int32)), .val (.int p2), .val (.int (own_bi q0 p2))] [(.int (2 : Int32)), (.int (3 : Int32))]))
  have hc10_2 : ¬ ((3 : Int32) < (2 : Int32)) := by decide
  refine own_via (fun t k => XS.icmpNo X1.here hx rfl (hb hby d5_10) rfl (flt hc10_2).1 k) ?_
  show OwnEnds p.tables e below _ (T1.setTop (mkF m 13 #[.val (.ref a0), .val (.int (3 : Int32)), .val (.int p2), .val (.int (own_bi q0 p2))] []))
  refine own_via (fun t k => XS.iloadN X1.here hx rfl (hb hby d5_13) rfl k) ?_
  show OwnEnds p.tables e below _ (T1.setTop (mkF m 14 #[.val (.ref a0), .val (.int (3 : Int32)), .val (.int p2), .val (.int (own_bi q0 p2))] [(.int (own_bi q0 p2))]))
  refine own_via (fun t k => XS.aloadN X1.here hx rfl (hb hby d5_14) rfl rfl k) ?_
  show OwnEnds p.tables e below _ (T1.setTop (mkF m 15 #[.val (.ref a0), .val (.int (3 : Int32)), .val (.int p2), .val (.int (own_bi q0 p2))] [(.ref a0), (.int (own_bi q0 p2))]))
  refine own_via (fun t k => XS.iconst X1.here hx rfl (hb hby d5_15) k) ?_
  show OwnEnds p.tables e below _ (T1.setTop (mkF m 16 #[.val (.ref a0), .val (.int (3 : Int32)), .val (.int p2), .val (.int (own_bi q0 p2))] [(.int (1 : Int32)), (.ref a0), (.int (own_bi q0 p2))]))
  refine own_via (own_ldI X1 hx hZ e1 A_a0 (v := (.int q1)) 1 rfl rfl (g := (mkF m 16 #[.val (.ref a0), .val (.int (3 : Int32)), .val (.int p2), .val (.int (own_bi q0 p2))] [(.int (1 : Int32)), (.ref a0), (.int (own_bi q0 p2))])) rfl rfl (hb hby d5_16)) ?_
  show OwnEnds p.tables e below _ (T1.setTop (mkF m 17 #[.val (.ref a0), .val (.int (3 : Int32)), .val (.int p2), .val (.int (own_bi q0 p2))] [(.int q1), (.int (own_bi q0 p2))]))
  refine own_via (fun t k => XS.iloadN X1.here hx rfl (hb hby d5_17) rfl k) ?_
  show OwnEnds p.tables e below _ (T1.setTop (mkF m 18 #[.val (.ref a0), .val (.int (3 : Int32)), .val (.int p2), .val (.int (own_bi q0 p2))] [(.int p2), (.int q1), (.int (own_bi q0 p2))]))
  obtain ⟨_, _, ⟨T3, L3, k3, n3⟩, -, X3, ⟨Lc3, hQ3, l3, y3, z3⟩, st3⟩ := Jvm.LawKit.callS X1 hx (y := (⟨"com/example/crowd_cache/crowdcache/core/BucketToBitmapPinLaw", "bitIn", "(II)I"⟩ : MethodName)) hown (mvT hZ (hw _ (List.mem_of_getElem? (i := 29) rfl))) (mvT hZ (hw _ (List.mem_of_getElem? (i := 30) rfl))) (mvT hZ (hw _ (List.mem_of_getElem? (i := 24) rfl))) (mvT hZ (hw _ (List.mem_of_getElem? (i := 31) rfl))) (by decide) (backOf (W := 1) (rm6 l Z aw hw [] q1 p2 h0 n0 Z0 ) hZ (hw _ (List.mem_of_getElem? (i := 31) rfl)) (hw _ (List.mem_of_getElem? (i := 24) rfl)) (by decide) (by decide)) (g := (mkF m 18 #[.val (.ref a0), .val (.int (3 : Int32)), .val (.int p2), .val (.int (own_bi q0 p2))] [(.int p2), (.int q1), (.int (own_bi q0 p2))])) rfl (by rw [hml]; rfl) (argsL := [(.int q1), (.int p2)]) (rest := [(.int (own_bi q0 p2))]) (lenOf pd_0 rfl) rfl (by show 2 * 0 + _ ≤ _; exact Nat.le_of_eq rfl) (hb hby d5_18) (fun _ _ => ⟨rfl, e1, (by decide : 0 + 0 ≤ _), (by decide : 0 + 0 ≤ _)⟩)
  dsimp only [Pt.U, Pt.locs, Pt.cells, Pt.slots] at X3 l3 y3 z3 st3 hQ3
  subst l3 y3 z3
  obtain ⟨rfl, Nq3, e3⟩ := hQ3
  have N3 := Fr.app N1 Nq3
  replace e3 : T3.heap = h0 := e3
  refine own_via st3 ?_
  show OwnEnds p.tables e below _ (T3.setTop (mkF m 21 #[.val (.ref a0), .val (.int (3 : Int32)), .val (.int p2), .val (.int (own_bi q0 p2))] [(.int (own_bi q1 p2)), (.int (own_bi q0 p2))]))
  refine own_via (fun t k => XS.ior X3.here hx rfl (hb hby d5_21) rfl k) ?_
  show OwnEnds p.tables e below _ (T3.setTop (mkF m 22 #[.val (.ref a0), .val (.int (3 : Int32)), .val (.int p2), .val (.int (own_bi q0 p2))] [(.int ((own_bi q0 p2) ||| (own_bi q1 p2)))]))
  refine own_via (fun t k => XS.istoreN X3.here hx rfl (hb hby d5_22) rfl (l' := #[.val (.ref a0), .val (.int (3 : Int32)), .val (.int p2), .val (.int ((own_bi q0 p2) ||| (own_bi q1 p2)))]) rfl k) ?_
  show OwnEnds p.tables e below _ (T3.setTop (mkF m 23 #[.val (.ref a0), .val (.int (3 : Int32)), .val (.int p2), .val (.int ((own_bi q0 p2) ||| (own_bi q1 p2)))] []))
  refine own_via (fun t k => XS.iloadN X3.here hx rfl (hb hby d5_23) rfl k) ?_
  show OwnEnds p.tables e below _ (T3.setTop (mkF m 24 #[.val (.ref a0), .val (.int (3 : Int32)), .val (.int p2), .val (.int ((own_bi q0 p2) ||| (own_bi q1 p2)))] [(.int (3 : Int32))]))
  refine own_via (fun t k => XS.iconst X3.here hx rfl (hb hby d5_24) k) ?_
  show OwnEnds p.tables e below _ (T3.setTop (mkF m 25 #[.val (.ref a0), .val (.int (3 : Int32)), .val (.int p2), .val (.int ((own_bi q0 p2) ||| (own_bi q1 p2)))] [(.int (3 : Int32)), (.int (3 : Int32))]))
  have hc25_4 : ¬ ((3 : Int32) < (3 : Int32)) := by decide
  refine own_via (fun t k => XS.icmpNo X3.here hx rfl (hb hby d5_25) rfl (flt hc25_4).1 k) ?_
  show OwnEnds p.tables e below _ (T3.setTop (mkF m 28 #[.val (.ref a0), .val (.int (3 : Int32)), .val (.int p2), .val (.int ((own_bi q0 p2) ||| (own_bi q1 p2)))] []))
  refine own_via (fun t k => XS.iloadN X3.here hx rfl (hb hby d5_28) rfl k) ?_
  show OwnEnds p.tables e below _ (T3.setTop (mkF m 29 #[.val (.ref a0), .val (.int (3 : Int32)), .val (.int p2), .val (.int ((own_bi q0 p2) ||| (own_bi q1 p2)))] [(.int ((own_bi q0 p2) ||| (own_bi q1 p2)))]))
  refine own_via (fun t k => XS.aloadN X3.here hx rfl (hb hby d5_29) rfl rfl k) ?_
  show OwnEnds p.tables e below _ (T3.setTop (mkF m 30 #[.val (.ref a0), .val (.int (3 : Int32)), .val (.int p2), .val (.int ((own_bi q0 p2) ||| (own_bi q1 p2)))] [(.ref a0), (.int ((own_bi q0 p2) ||| (own_bi q1 p2)))]))
  refine own_via (fun t k => XS.iconst X3.here hx rfl (hb hby d5_30) k) ?_
  show OwnEnds p.tables e below _ (T3.setTop (mkF m 31 #[.val (.ref a0), .val (.int (3 : Int32)), .val (.int p2), .val (.int ((own_bi q0 p2) ||| (own_bi q1 p2)))] [(.int (2 : Int32)), (.ref a0), (.int ((own_bi q0 p2) ||| (own_bi q1 p2)))]))
  refine own_via (own_ldI X3 hx hZ e3 A_a0 (v := (.int q2)) 2 rfl rfl (g := (mkF m 31 #[.val (.ref a0), .val (.int (3 : Int32)), .val (.int p2), .val (.int ((own_bi q0 p2) ||| (own_bi q1 p2)))] [(.int (2 : Int32)), (.ref a0), (.int ((own_bi q0 p2) ||| (own_bi q1 p2)))])) rfl rfl (hb hby d5_31)) ?_
  show OwnEnds p.tables e below _ (T3.setTop (mkF m 32 #[.val (.ref a0), .val (.int (3 : Int32)), .val (.int p2), .val (.int ((own_bi q0 p2) ||| (own_bi q1 p2)))] [(.int q2), (.int ((own_bi q0 p2) ||| (own_bi q1 p2)))]))
  refine own_via (fun t k => XS.iloadN X3.here hx rfl (hb hby d5_32) rfl k) ?_
  show OwnEnds p.tables e below _ (T3.setTop (mkF m 33 #[.val (.ref a0), .val (.int (3 : Int32)), .val (.int p2), .val (.int ((own_bi q0 p2) ||| (own_bi q1 p2)))] [(.int p2), (.int q2), (.int ((own_bi q0 p2) ||| (own_bi q1 p2)))]))
  obtain ⟨_, _, ⟨T5, L5, k5, n5⟩, -, X5, ⟨Lc5, hQ5, l5, y5, z5⟩, st5⟩ := Jvm.LawKit.callS X3 hx (y := (⟨"com/example/crowd_cache/crowdcache/core/BucketToBitmapPinLaw", "bitIn", "(II)I"⟩ : MethodName)) hown (mvT hZ (hw _ (List.mem_of_getElem? (i := 29) rfl))) (mvT hZ (hw _ (List.mem_of_getElem? (i := 30) rfl))) (mvT hZ (hw _ (List.mem_of_getElem? (i := 24) rfl))) (mvT hZ (hw _ (List.mem_of_getElem? (i := 31) rfl))) (by decide) (backOf (W := 1) (rm6 l Z aw hw [] q2 p2 h0 n0 Z0 ) hZ (hw _ (List.mem_of_getElem? (i := 31) rfl)) (hw _ (List.mem_of_getElem? (i := 24) rfl)) (by decide) (by decide)) (g := (mkF m 33 #[.val (.ref a0), .val (.int (3 : Int32)), .val (.int p2), .val (.int ((own_bi q0 p2) ||| (own_bi q1 p2)))] [(.int p2), (.int q2), (.int ((own_bi q0 p2) ||| (own_bi q1 p2)))])) rfl (by rw [hml]; rfl) (argsL := [(.int q2), (.int p2)]) (rest := [(.int ((own_bi q0 p2) ||| (own_bi q1 p2)))]) (lenOf pd_0 rfl) rfl (by show 2 * 0 + _ ≤ _; exact Nat.le_of_eq rfl) (hb hby d5_33) (fun _ _ => ⟨rfl, e3, (by decide : 0 + 0 ≤ _), (by decide : 0 + 0 ≤ _)⟩)
  dsimp only [Pt.U, Pt.locs, Pt.cells, Pt.slots] at X5 l5 y5 z5 st5 hQ5
  subst l5 y5 z5
  obtain ⟨rfl, Nq5, e5⟩ := hQ5
  have N5 := Fr.app N3 Nq5
  replace e5 : T5.heap = h0 := e5
  refine own_via st5 ?_
  show OwnEnds p.tables e below _ (T5.setTop (mkF m 36 #[.val (.ref a0), .val (.int (3 : Int32)), .val (.int p2), .val (.int ((own_bi q0 p2) ||| (own_bi q1 p2)))] [(.int (own_bi q2 p2)), (.int ((own_bi q0 p2) ||| (own_bi q1 p2)))]))
  refine own_via (fun t k => XS.ior X5.here hx rfl (hb hby d5_36) rfl k) ?_
  show OwnEnds p.tables e below _ (T5.setTop (mkF m 37 #[.val (.ref a0), .val (.int (3 : Int32)), .val (.int p2), .val (.int ((own_bi q0 p2) ||| (own_bi q1 p2)))] [(.int (((own_bi q0 p2) ||| (own_bi q1 p2)) ||| (own_bi q2 p2)))]))
  refine own_via (fun t k => XS.istoreN X5.here hx rfl (hb hby d5_37) rfl (l' := #[.val (.ref a0), .val (.int (3 : Int32)), .val (.int p2), .val (.int (((own_bi q0 p2) ||| (own_bi q1 p2)) ||| (own_bi q2 p2)))]) rfl k) ?_
  show OwnEnds p.tables e below _ (T5.setTop (mkF m 38 #[.val (.ref a0), .val (.int (3 : Int32)), .val (.int p2), .val (.int (((own_bi q0 p2) ||| (own_bi q1 p2)) ||| (own_bi q2 p2)))] []))
  refine own_via (fun t k => XS.iloadN X5.here hx rfl (hb hby d5_38) rfl k) ?_
  show OwnEnds p.tables e below _ (T5.setTop (mkF m 39 #[.val (.ref a0), .val (.int (3 : Int32)), .val (.int p2), .val (.int (((own_bi q0 p2) ||| (own_bi q1 p2)) ||| (own_bi q2 p2)))] [(.int (((own_bi q0 p2) ||| (own_bi q1 p2)) ||| (own_bi q2 p2)))]))
  refine own_retI X5 hx Bd.returns hlk (hb hby d5_39) ?_ (by decide) (by decide)
  rw [e5]
  exact ⟨rfl, N5, rfl⟩
theorem ef_43 (m : MethodId) (a0 : Addr) (a1 : Addr) (p3 : Int32) : entryFrame m #[(.ref a0), (.ref a1), (.int (3 : Int32)), (.int p3)] 4 = mkF m 0 #[.val (.ref a0), .val (.ref a1), .val (.int (3 : Int32)), .val (.int p3)] [] := by first | (simp [entryFrame, mkF, argsToLocals, Value.category]; done) | rfl
def Q43 (Z : State) (a0 : Addr) (a1 : Addr) (p3 : Int32) (q0 : Int32) (q1 : Int32) (q2 : Int32) (NN : Nat) (jn : Nat) (h0 : Heap) (n0 : Nat) (v : Option Value) (h : Heap) (L : List Loc) : Prop := v = some (.int 1) ∧ Fr n0 L ∧ h = h0
set_option maxRecDepth 65536 in
set_option maxHeartbeats 40000000 in
theorem rm43 (l : Launch) (Z : State) (aw : Array Value) (hw : ∀ d ∈ tables_1, d.before aw Z = true) (ws : List Jvm.Cond) (a0 : Addr) (a1 : Addr) (p3 : Int32) (q0 : Int32) (q1 : Int32) (q2 : Int32) (NN : Nat) (jn : Nat) (h0 : Heap) (n0 : Nat) (Z0 : n0 ≤ h0.size) (A_a0 : AL Z h0 a0 .byte (own_bl NN [q0, q1, q2])) (A_a1 : AL Z h0 a1 .int [(.int q0), (.int q1), (.int q2)]) (hjn : p3.toInt = jn) (hlt : jn < NN) (hq0 : 0 ≤ q0.toInt ∧ q0.toInt ≤ 65535) (hq1 : 0 ≤ q1.toInt ∧ q1.toInt ≤ 65535) (hq2 : 0 ≤ q2.toInt ∧ q2.toInt ≤ 65535) :
    MetFree l (⟨"com/example/crowd_cache/crowdcache/core/BucketToBitmapPinLaw", "checkAt", "([B[III)Z"⟩ : MethodName) (head1 (Jvm.Cond.code (⟨"com/example/crowd_cache/crowdcache/core/BucketToBitmapPinLaw", "checkAt", "([B[III)Z"⟩ : MethodName) method_3_code 4 (some .boolean) :: ws) ({ frames := 2, cells := 0, slots := 0, locals := 30 } : Room)) (fun a U => a = #[(.ref a0), (.ref a1), (.int (3 : Int32)), (.int p3)] ∧ Z.Warmed39 U.vm ∧ U.heap = h0) (fun _ _ _ _ _ => True) (fun _ U o U' => ∃ v L, o = .returned v ∧ Q43 Z a0 a1 p3 q0 q1 q2 NN jn h0 n0 v U'.heap L ∧ FrameEnd U o U' L ({ frames := 2, cells := 0, slots := 0, locals := 30 } : Room).cells ({ frames := 2, cells := 0, slots := 0, locals := 30 } : Room).slots) := by
  refine MetFree.of_bodySF (plainFor_of_name pn_1) hisR ?_
  intro p e s m args below meth c s₁ Bd hml0 hP hK
  obtain ⟨rfl, hZ, hh⟩ := hP
  have hx := Bd.exec
  have hby := Bd.bytes
  have hml : c.maxLocals = 4 := hml0
  have hown : s.vm.findClass "com/example/crowd_cache/crowdcache/core/BucketToBitmapPinLaw" = some m.cls := findClass_of_methodNamed Bd.named
  have hnm := (name_of_methodNamed Bd.named Bd.method).1
  have hlk : meth.locks = false := Bd.notSynchronized
  have X0 : Stand p l e ({ frames := 2, cells := 0, slots := 0, locals := 30 } : Room) s m #[(.ref a0), (.ref a1), (.int (3 : Int32)), (.int p3)] below meth c s₁ [] 0 0 := Stand.of_body Bd
  have e0 : s₁.heap = h0 := by rw [← hh, Bd.state]; rfl
  have N0 := Fr.nil n0
  show OwnEnds p.tables e below (OwnQ s ({ frames := 2, cells := 0, slots := 0, locals := 30 } : Room).cells ({ frames := 2, cells := 0, slots := 0, locals := 30 } : Room).slots (Q43 Z a0 a1 p3 q0 q1 q2 NN jn h0 n0)) (s₁.setTop (entryFrame m #[(.ref a0), (.ref a1), (.int (3 : Int32)), (.int p3)] 4))
  refine own_via (fun t k => castTop (ef_43 m a0 a1 p3) k) ?_
  show OwnEnds p.tables e below _ (s₁.setTop (mkF m 0 #[.val (.ref a0), .val (.ref a1), .val (.int (3 : Int32)), .val (.int p3)] []))
  refine own_via (fun t k => XS.aloadN X0.here hx rfl (hb hby d4_0) rfl rfl k) ?_
  show OwnEnds p.tables e below _ (s₁.setTop (mkF m 1 #[.val (.ref a0), .val (.ref a1), .val (.int (3 : Int32)), .val (.int p3)] [(.ref a0)]))
  refine own_via (fun t k => XS.iloadN X0.here hx rfl (hb hby d4_1) rfl k) ?_
  show OwnEnds p.tables e below _ (s₁.setTop (mkF m 2 #[.val (.ref a0), .val (.ref a1), .val (.int (3 : Int32)), .val (.int p3)] [(.int p3), (.ref a0)]))
  refine own_via (own_ldB X0 hx hZ e0 A_a0 (v := (.int (own_g [q0, q1, q2] jn))) jn hjn (own_bat _ hlt) (g := (mkF m 2 #[.val (.ref a0), .val (.ref a1), .val (.int (3 : Int32)), .val (.int p3)] [(.int p3), (.ref a0)])) rfl rfl (hb hby d4_2)) ?_
  show OwnEnds p.tables e below _ (s₁.setTop (mkF m 3 #[.val (.ref a0), .val (.ref a1), .val (.int (3 : Int32)), .val (.int p3)] [(.int (own_g [q0, q1, q2] jn))]))
  refine own_via (fun t k => XS.aloadN X0.here hx rfl (hb hby d4_3) rfl rfl k) ?_
  show OwnEnds p.tables e below _ (s₁.setTop (mkF m 4 #[.val (.ref a0), .val (.ref a1), .val (.int (3 : Int32)), .val (.int p3)] [(.ref a1), (.int (own_g [q0, q1, q2] jn))]))
  refine own_via (fun t k => XS.iloadN X0.here hx rfl (hb hby d4_4) rfl k) ?_
  show OwnEnds p.tables e below _ (s₁.setTop (mkF m 5 #[.val (.ref a0), .val (.ref a1), .val (.int (3 : Int32)), .val (.int p3)] [(.int (3 : Int32)), (.ref a1), (.int (own_g [q0, q1, q2] jn))]))
  refine own_via (fun t k => XS.iloadN X0.here hx rfl (hb hby d4_5) rfl k) ?_
  show OwnEnds p.tables e below _ (s₁.setTop (mkF m 6 #[.val (.ref a0), .val (.ref a1), .val (.int (3 : Int32)), .val (.int p3)] [(.int p3), (.int (3 : Int32)), (.ref a1), (.int (own_g [q0, q1, q2] jn))]))
  obtain ⟨_, _, ⟨T1, L1, k1, n1⟩, -, X1, ⟨Lc1, hQ1, l1, y1, z1⟩, st1⟩ := Jvm.LawKit.callS X0 hx (y := (⟨"com/example/crowd_cache/crowdcache/core/BucketToBitmapPinLaw", "expectedAt", "([III)I"⟩ : MethodName)) hown (mvT hZ (hw _ (List.mem_of_getElem? (i := 26) rfl))) (mvT hZ (hw _ (List.mem_of_getElem? (i := 27) rfl))) (mvT hZ (hw _ (List.mem_of_getElem? (i := 24) rfl))) (mvT hZ (hw _ (List.mem_of_getElem? (i := 28) rfl))) (by decide) (backOf (W := 1) (rm53 l Z aw hw [] a1 p3 q0 q1 q2 h0 n0 Z0 A_a1) hZ (hw _ (List.mem_of_getElem? (i := 28) rfl)) (hw _ (List.mem_of_getElem? (i := 24) rfl)) (by decide) (by decide)) (g := (mkF m 6 #[.val (.ref a0), .val (.ref a1), .val (.int (3 : Int32)), .val (.int p3)] [(.int p3), (.int (3 : Int32)), (.ref a1), (.int (own_g [q0, q1, q2] jn))])) rfl (by rw [hml]; rfl) (argsL := [(.ref a1), (.int (3 : Int32)), (.int p3)]) (rest := [(.int (own_g [q0, q1, q2] jn))]) (lenOf pd_1 rfl) rfl (by show 2 * 0 + _ ≤ _; exact Nat.le_of_eq rfl) (hb hby d4_6) (fun _ _ => ⟨rfl, e0, (by decide : 0 + 0 ≤ _), (by decide : 0 + 0 ≤ _)⟩)
  dsimp only [Pt.U, Pt.locs, Pt.cells, Pt.slots] at X1 l1 y1 z1 st1 hQ1
  subst l1 y1 z1
  obtain ⟨rfl, Nq1, e1⟩ := hQ1
  have N1 := Fr.app N0 Nq1
  replace e1 : T1.heap = h0 := e1
  refine own_via st1 ?_
  show OwnEnds p.tables e below _ (T1.setTop (mkF m 9 #[.val (.ref a0), .val (.ref a1), .val (.int (3 : Int32)), .val (.int p3)] [(.int (((own_bi q0 p3) ||| (own_bi q1 p3)) ||| (own_bi q2 p3))), (.int (own_g [q0, q1, q2] jn))]))
  refine own_via (fun t k => XS.i2b X1.here hx rfl (hb hby d4_9) rfl k) ?_
  show OwnEnds p.tables e below _ (T1.setTop (mkF m 10 #[.val (.ref a0), .val (.ref a1), .val (.int (3 : Int32)), .val (.int p3)] [(.int ((((own_bi q0 p3) ||| (own_bi q1 p3)) ||| (own_bi q2 p3)).toInt8.toInt32)), (.int (own_g [q0, q1, q2] jn))]))
  have hc10_2 : (own_g [q0, q1, q2] jn) = ((((own_bi q0 p3) ||| (own_bi q1 p3)) ||| (own_bi q2 p3)).toInt8.toInt32) := own_ck3 hq0 hq1 hq2 hjn
  refine own_via (fun t k => XS.icmpNo X1.here hx rfl (hb hby d4_10) rfl (teq hc10_2).2 k) ?_
  show OwnEnds p.tables e below _ (T1.setTop (mkF m 13 #[.val (.ref a0), .val (.ref a1), .val (.int (3 : Int32)), .val (.int p3)] []))
  refine own_via (fun t k => XS.iconst X1.here hx rfl (hb hby d4_13) k) ?_
  show OwnEnds p.tables e below _ (T1.setTop (mkF m 14 #[.val (.ref a0), .val (.ref a1), .val (.int (3 : Int32)), .val (.int p3)] [(.int (1 : Int32))]))
  refine own_via (fun t k => XS.goto X1.here hx rfl (pc0 := 14) (pc' := 18) rfl (hb hby d4_14) (by decide) (by decide) k) ?_
  show OwnEnds p.tables e below _ (T1.setTop (mkF m 18 #[.val (.ref a0), .val (.ref a1), .val (.int (3 : Int32)), .val (.int p3)] [(.int (1 : Int32))]))
  refine own_retN (t := .boolean) X1 hx Bd.returns (by simp) hlk (hb hby d4_18) ?_ (by decide) (by decide)
  rw [e1]
  exact ⟨rfl, N1, rfl⟩
theorem ef_0 (m : MethodId) (p0 : Int32) (p1 : Int32) (p2 : Int32) (p3 : Int32) (p4 : Int32) (q5 : Int64) : entryFrame m #[(.int p0), (.int p1), (.int p2), (.int p3), (.int p4), (.long q5)] maxLocals = mkF m 0 #[.val (.int p0), .val (.int p1), .val (.int p2), .val (.int p3), .val (.int p4), .val (.long q5), .second, .unset, .unset, .unset, .unset, .unset, .unset, .unset, .unset, .unset, .unset, .unset, .unset, .unset, .unset, .unset, .unset, .unset] [] := by first | (simp [entryFrame, mkF, argsToLocals, Value.category, maxLocals]; done) | rfl
def Q0 (Z : State) (p0 : Int32) (p1 : Int32) (p2 : Int32) (p3 : Int32) (p4 : Int32) (q5 : Int64) (h0 : Heap) (n0 : Nat) (v : Option Value) (h : Heap) (L : List Loc) : Prop := v = some (.int 1) ∧ Fr n0 L
theorem pd_2 : parseMethodDescriptor "(J[I)V" = some ⟨[.long, (.array .int)], none⟩ := by decide +kernel
theorem pd_3 : parseMethodDescriptor "()[B" = some ⟨[], some (.array .byte)⟩ := by decide +kernel
theorem pd_4 : parseMethodDescriptor "([B[III)Z" = some ⟨[(.array .byte), (.array .int), .int, .int], some .boolean⟩ := by decide +kernel
set_option maxRecDepth 65536 in
set_option maxHeartbeats 40000000 in
theorem rm0 (l : Launch) (Z : State) (aw : Array Value) (hw : ∀ d ∈ tables_1, d.before aw Z = true) (ws : List Jvm.Cond) (p0 : Int32) (p1 : Int32) (p2 : Int32) (p3 : Int32) (p4 : Int32) (q5 : Int64) (h0 : Heap) (n0 : Nat) (Z0 : n0 ≤ h0.size) :
    MetFree l x (head1 (Jvm.Cond.code x code maxLocals ret :: ws) room_1) (fun a U => a = #[(.int p0), (.int p1), (.int p2), (.int p3), (.int p4), (.long q5)] ∧ Z.Warmed39 U.vm ∧ U.heap = h0) (fun _ _ _ _ _ => True) (fun _ U o U' => ∃ v L, o = .returned v ∧ Q0 Z p0 p1 p2 p3 p4 q5 h0 n0 v U'.heap L ∧ FrameEnd U o U' L 16 16512) := by
  refine MetFree.of_bodySF (plainFor_of_name pn_1) hisR ?_
  intro p e s m args below meth c s₁ Bd hml0 hP hK
  obtain ⟨rfl, hZ, hh⟩ := hP
  have hx := Bd.exec
  have hby := Bd.bytes
  have hml : c.maxLocals = 24 := hml0
  have hown : s.vm.findClass "com/example/crowd_cache/crowdcache/core/BucketToBitmapPinLaw" = some m.cls := findClass_of_methodNamed Bd.named
  have hnm := (name_of_methodNamed Bd.named Bd.method).1
  have hlk : meth.locks = false := Bd.notSynchronized
  have X0 : Stand p l e room_1 s m #[(.int p0), (.int p1), (.int p2), (.int p3), (.int p4), (.long q5)] below meth c s₁ [] 0 0 := Stand.of_body Bd
  have e0 : s₁.heap = h0 := by rw [← hh, Bd.state]; rfl
  have N0 := Fr.nil n0
  show OwnEnds p.tables e below (OwnQ s 16 16512 (Q0 Z p0 p1 p2 p3 p4 q5 h0 n0)) (s₁.setTop (entryFrame m #[(.int p0), (.int p1), (.int p2), (.int p3), (.int p4), (.long q5)] maxLocals))
  refine own_via (fun t k => castTop (ef_0 m p0 p1 p2 p3 p4 q5) k) ?_
  show OwnEnds p.tables e below _ (s₁.setTop (mkF m 0 #[.val (.int p0), .val (.int p1), .val (.int p2), .val (.int p3), .val (.int p4), .val (.long q5), .second, .unset, .unset, .unset, .unset, .unset, .unset, .unset, .unset, .unset, .unset, .unset, .unset, .unset, .unset, .unset, .unset, .unset] []))
  refine own_via (fun t k => XS.iloadN X0.here hx rfl (hb hby at_0) rfl k) ?_
  show OwnEnds p.tables e below _ (s₁.setTop (mkF m 1 #[.val (.int p0), .val (.int p1), .val (.int p2), .val (.int p3), .val (.int p4), .val (.long q5), .second, .unset, .unset, .unset, .unset, .unset, .unset, .unset, .unset, .unset, .unset, .unset, .unset, .unset, .unset, .unset, .unset, .unset] [(.int p0)]))
  refine own_via (X0.ldcInt hx hown (mvT hZ (hw _ (List.mem_of_getElem? (i := 0) rfl))) (g := (mkF m 1 #[.val (.int p0), .val (.int p1), .val (.int p2), .val (.int p3), .val (.int p4), .val (.long q5), .second, .unset, .unset, .unset, .unset, .unset, .unset, .unset, .unset, .unset, .unset, .unset, .unset, .unset, .unset, .unset, .unset, .unset] [(.int p0)])) rfl (hb hby at_1)) ?_
  show OwnEnds p.tables e below _ (s₁.setTop (mkF m 3 #[.val (.int p0), .val (.int p1), .val (.int p2), .val (.int p3), .val (.int p4), .val (.long q5), .second, .unset, .unset, .unset, .unset, .unset, .unset, .unset, .unset, .unset, .unset, .unset, .unset, .unset, .unset, .unset, .unset, .unset] [(.int (65535 : Int32)), (.int p0)]))
  refine own_via (fun t k => XS.iand X0.here hx rfl (hb hby at_3) rfl k) ?_
  show OwnEnds p.tables e below _ (s₁.setTop (mkF m 4 #[.val (.int p0), .val (.int p1), .val (.int p2), .val (.int p3), .val (.int p4), .val (.long q5), .second, .unset, .unset, .unset, .unset, .unset, .unset, .unset, .unset, .unset, .unset, .unset, .unset, .unset, .unset, .unset, .unset, .unset] [(.int (p0 &&& (65535 : Int32)))]))
  obtain ⟨x0, h_x0⟩ : ∃ z, z = (p0 &&& (65535 : Int32)) := ⟨_, rfl⟩
  rw [← h_x0]
  have hx0 : 0 ≤ x0.toInt ∧ x0.toInt ≤ 65535 := by rw [h_x0]; exact own_m16 _
  refine own_via (fun t k => XS.istore X0.here hx rfl (hb hby at_4) rfl (l' := #[.val (.int p0), .val (.int p1), .val (.int p2), .val (.int p3), .val (.int p4), .val (.long q5), .second, .val (.int x0), .unset, .unset, .unset, .unset, .unset, .unset, .unset, .unset, .unset, .unset, .unset, .unset, .unset, .unset, .unset, .unset]) rfl k) ?_
  show OwnEnds p.tables e below _ (s₁.setTop (mkF m 6 #[.val (.int p0), .val (.int p1), .val (.int p2), .val (.int p3), .val (.int p4), .val (.long q5), .second, .val (.int x0), .unset, .unset, .unset, .unset, .unset, .unset, .unset, .unset, .unset, .unset, .unset, .unset, .unset, .unset, .unset, .unset] []))
  refine own_via (fun t k => XS.iloadN X0.here hx rfl (hb hby at_6) rfl k) ?_
  show OwnEnds p.tables e below _ (s₁.setTop (mkF m 7 #[.val (.int p0), .val (.int p1), .val (.int p2), .val (.int p3), .val (.int p4), .val (.long q5), .second, .val (.int x0), .unset, .unset, .unset, .unset, .unset, .unset, .unset, .unset, .unset, .unset, .unset, .unset, .unset, .unset, .unset, .unset] [(.int p3)]))
  refine own_via (fun t k => XS.iconst X0.here hx rfl (hb hby at_7) k) ?_
  show OwnEnds p.tables e below _ (s₁.setTop (mkF m 8 #[.val (.int p0), .val (.int p1), .val (.int p2), .val (.int p3), .val (.int p4), .val (.long q5), .second, .val (.int x0), .unset, .unset, .unset, .unset, .unset, .unset, .unset, .unset, .unset, .unset, .unset, .unset, .unset, .unset, .unset, .unset] [(.int (2 : Int32)), (.int p3)]))
  refine own_via (fun t k => XS.iushr X0.here hx rfl (hb hby at_8) rfl k) ?_
  show OwnEnds p.tables e below _ (s₁.setTop (mkF m 9 #[.val (.int p0), .val (.int p1), .val (.int p2), .val (.int p3), .val (.int p4), .val (.long q5), .second, .val (.int x0), .unset, .unset, .unset, .unset, .unset, .unset, .unset, .unset, .unset, .unset, .unset, .unset, .unset, .unset, .unset, .unset] [(.int ((p3.toUInt32 >>> ((2 : Int32) &&& 31).toUInt32).toInt32))]))
  refine own_via (fun t k => XS.iconst X0.here hx rfl (hb hby at_9) k) ?_
  show OwnEnds p.tables e below _ (s₁.setTop (mkF m 10 #[.val (.int p0), .val (.int p1), .val (.int p2), .val (.int p3), .val (.int p4), .val (.long q5), .second, .val (.int x0), .unset, .unset, .unset, .unset, .unset, .unset, .unset, .unset, .unset, .unset, .unset, .unset, .unset, .unset, .unset, .unset] [(.int (1 : Int32)), (.int ((p3.toUInt32 >>> ((2 : Int32) &&& 31).toUInt32).toInt32))]))
  refine own_via (fun t k => XS.iand X0.here hx rfl (hb hby at_10) rfl k) ?_
  show OwnEnds p.tables e below _ (s₁.setTop (mkF m 11 #[.val (.int p0), .val (.int p1), .val (.int p2), .val (.int p3), .val (.int p4), .val (.long q5), .second, .val (.int x0), .unset, .unset, .unset, .unset, .unset, .unset, .unset, .unset, .unset, .unset, .unset, .unset, .unset, .unset, .unset, .unset] [(.int (((p3.toUInt32 >>> ((2 : Int32) &&& 31).toUInt32).toInt32) &&& (1 : Int32)))]))
  have J19_1 : ∀ nr : Int32, nr = (if (((p3.toUInt32 >>> ((2 : Int32) &&& 31).toUInt32).toInt32) &&& (1 : Int32)) = (0 : Int32) then (0 : Int32) else (1 : Int32)) → OwnEnds p.tables e below (OwnQ s 16 16512 (Q0 Z p0 p1 p2 p3 p4 q5 h0 n0)) (s₁.setTop (mkF m 19 #[.val (.int p0), .val (.int p1), .val (.int p2), .val (.int p3), .val (.int p4), .val (.long q5), .second, .val (.int x0), .unset, .unset, .unset, .unset, .unset, .unset, .unset, .unset, .unset, .unset, .unset, .unset, .unset, .unset, .unset, .unset] [(.int nr)])) := by
    intro nr h_nr
    refine own_via (fun t k => XS.istore X0.here hx rfl (hb hby at_19) rfl (l' := #[.val (.int p0), .val (.int p1), .val (.int p2), .val (.int p3), .val (.int p4), .val (.long q5), .second, .val (.int x0), .val (.int nr), .unset, .unset, .unset, .unset, .unset, .unset, .unset, .unset, .unset, .unset, .unset, .unset, .unset, .unset, .unset]) rfl k) ?_
    show OwnEnds p.tables e below _ (s₁.setTop (mkF m 21 #[.val (.int p0), .val (.int p1), .val (.int p2), .val (.int p3), .val (.int p4), .val (.long q5), .second, .val (.int x0), .val (.int nr), .unset, .unset, .unset, .unset, .unset, .unset, .unset, .unset, .unset, .unset, .unset, .unset, .unset, .unset, .unset] []))
    refine own_via (fun t k => XS.iload X0.here hx rfl (hb hby at_21) rfl k) ?_
    show OwnEnds p.tables e below _ (s₁.setTop (mkF m 23 #[.val (.int p0), .val (.int p1), .val (.int p2), .val (.int p3), .val (.int p4), .val (.long q5), .second, .val (.int x0), .val (.int nr), .unset, .unset, .unset, .unset, .unset, .unset, .unset, .unset, .unset, .unset, .unset, .unset, .unset, .unset, .unset] [(.int nr)]))
    have J43_2 : ∀ y1 : Int32, y1 = (if nr = (0 : Int32) then (p1 &&& (65535 : Int32)) else ((x0 &&& (-16 : Int32)) ||| (p1 &&& (15 : Int32)))) → OwnEnds p.tables e below (OwnQ s 16 16512 (Q0 Z p0 p1 p2 p3 p4 q5 h0 n0)) (s₁.setTop (mkF m 43 #[.val (.int p0), .val (.int p1), .val (.int p2), .val (.int p3), .val (.int p4), .val (.long q5), .second, .val (.int x0), .val (.int nr), .unset, .unset, .unset, .unset, .unset, .unset, .unset, .unset, .unset, .unset, .unset, .unset, .unset, .unset, .unset] [(.int y1)])) := by
      intro y1 h_y1
      have hy1 := own_yz hx0 h_y1
      refine own_via (fun t k => XS.istore X0.here hx rfl (hb hby at_43) rfl (l' := #[.val (.int p0), .val (.int p1), .val (.int p2), .val (.int p3), .val (.int p4), .val (.long q5), .second, .val (.int x0), .val (.int nr), .val (.int y1), .unset, .unset, .unset, .unset, .unset, .unset, .unset, .unset, .unset, .unset, .unset, .unset, .unset, .unset]) rfl k) ?_
      show OwnEnds p.tables e below _ (s₁.setTop (mkF m 45 #[.val (.int p0), .val (.int p1), .val (.int p2), .val (.int p3), .val (.int p4), .val (.long q5), .second, .val (.int x0), .val (.int nr), .val (.int y1), .unset, .unset, .unset, .unset, .unset, .unset, .unset, .unset, .unset, .unset, .unset, .unset, .unset, .unset] []))
      refine own_via (fun t k => XS.iload X0.here hx rfl (hb hby at_45) rfl k) ?_
      show OwnEnds p.tables e below _ (s₁.setTop (mkF m 47 #[.val (.int p0), .val (.int p1), .val (.int p2), .val (.int p3), .val (.int p4), .val (.long q5), .second, .val (.int x0), .val (.int nr), .val (.int y1), .unset, .unset, .unset, .unset, .unset, .unset, .unset, .unset, .unset, .unset, .unset, .unset, .unset, .unset] [(.int nr)]))
      have J67_3 : ∀ z1 : Int32, z1 = (if nr = (0 : Int32) then (p2 &&& (65535 : Int32)) else ((x0 &&& (-16 : Int32)) ||| (p2 &&& (15 : Int32)))) → OwnEnds p.tables e below (OwnQ s 16 16512 (Q0 Z p0 p1 p2 p3 p4 q5 h0 n0)) (s₁.setTop (mkF m 67 #[.val (.int p0), .val (.int p1), .val (.int p2), .val (.int p3), .val (.int p4), .val (.long q5), .second, .val (.int x0), .val (.int nr), .val (.int y1), .unset, .unset, .unset, .unset, .unset, .unset, .unset, .unset, .unset, .unset, .unset, .unset, .unset, .unset] [(.int z1)])) := by
        intro z1 h_z1
        have hz1 := own_yz hx0 h_z1
        refine own_via (fun t k => XS.istore X0.here hx rfl (hb hby at_67) rfl (l' := #[.val (.int p0), .val (.int p1), .val (.int p2), .val (.int p3), .val (.int p4), .val (.long q5), .second, .val (.int x0), .val (.int nr), .val (.int y1), .val (.int z1), .unset, .unset, .unset, .unset, .unset, .unset, .unset, .unset, .unset, .unset, .unset, .unset, .unset]) rfl k) ?_
        show OwnEnds p.tables e below _ (s₁.setTop (mkF m 69 #[.val (.int p0), .val (.int p1), .val (.int p2), .val (.int p3), .val (.int p4), .val (.long q5), .second, .val (.int x0), .val (.int nr), .val (.int y1), .val (.int z1), .unset, .unset, .unset, .unset, .unset, .unset, .unset, .unset, .unset, .unset, .unset, .unset, .unset] []))
        refine own_via (fun t k => XS.iloadN X0.here hx rfl (hb hby at_69) rfl k) ?_
        show OwnEnds p.tables e below _ (s₁.setTop (mkF m 70 #[.val (.int p0), .val (.int p1), .val (.int p2), .val (.int p3), .val (.int p4), .val (.long q5), .second, .val (.int x0), .val (.int nr), .val (.int y1), .val (.int z1), .unset, .unset, .unset, .unset, .unset, .unset, .unset, .unset, .unset, .unset, .unset, .unset, .unset] [(.int p3)]))
        refine own_via (fun t k => XS.iconst X0.here hx rfl (hb hby at_70) k) ?_
        show OwnEnds p.tables e below _ (s₁.setTop (mkF m 71 #[.val (.int p0), .val (.int p1), .val (.int p2), .val (.int p3), .val (.int p4), .val (.long q5), .second, .val (.int x0), .val (.int nr), .val (.int y1), .val (.int z1), .unset, .unset, .unset, .unset, .unset, .unset, .unset, .unset, .unset, .unset, .unset, .unset, .unset] [(.int (3 : Int32)), (.int p3)]))
        refine own_via (fun t k => XS.iand X0.here hx rfl (hb hby at_71) rfl k) ?_
        show OwnEnds p.tables e below _ (s₁.setTop (mkF m 72 #[.val (.int p0), .val (.int p1), .val (.int p2), .val (.int p3), .val (.int p4), .val (.long q5), .second, .val (.int x0), .val (.int nr), .val (.int y1), .val (.int z1), .unset, .unset, .unset, .unset, .unset, .unset, .unset, .unset, .unset, .unset, .unset, .unset, .unset] [(.int (p3 &&& (3 : Int32)))]))
        obtain ⟨km, h_km⟩ : ∃ z, z = (p3 &&& (3 : Int32)) := ⟨_, rfl⟩
        rw [← h_km]
        refine own_via (fun t k => XS.istore X0.here hx rfl (hb hby at_72) rfl (l' := #[.val (.int p0), .val (.int p1), .val (.int p2), .val (.int p3), .val (.int p4), .val (.long q5), .second, .val (.int x0), .val (.int nr), .val (.int y1), .val (.int z1), .val (.int km), .unset, .unset, .unset, .unset, .unset, .unset, .unset, .unset, .unset, .unset, .unset, .unset]) rfl k) ?_
        show OwnEnds p.tables e below _ (s₁.setTop (mkF m 74 #[.val (.int p0), .val (.int p1), .val (.int p2), .val (.int p3), .val (.int p4), .val (.long q5), .second, .val (.int x0), .val (.int nr), .val (.int y1), .val (.int z1), .val (.int km), .unset, .unset, .unset, .unset, .unset, .unset, .unset, .unset, .unset, .unset, .unset, .unset] []))
        refine own_via (fun t k => XS.iload X0.here hx rfl (hb hby at_74) rfl k) ?_
        show OwnEnds p.tables e below _ (s₁.setTop (mkF m 76 #[.val (.int p0), .val (.int p1), .val (.int p2), .val (.int p3), .val (.int p4), .val (.long q5), .second, .val (.int x0), .val (.int nr), .val (.int y1), .val (.int z1), .val (.int km), .unset, .unset, .unset, .unset, .unset, .unset, .unset, .unset, .unset, .unset, .unset, .unset] [(.int km)]))
        have J100_4 : ∀ y2 : Int32, ∀ z2 : Int32, y2 = (if km = (0 : Int32) then x0 else y1) → z2 = (if km = (0 : Int32) then x0 else (if km = (1 : Int32) then x0 else z1)) → OwnEnds p.tables e below (OwnQ s 16 16512 (Q0 Z p0 p1 p2 p3 p4 q5 h0 n0)) (s₁.setTop (mkF m 100 #[.val (.int p0), .val (.int p1), .val (.int p2), .val (.int p3), .val (.int p4), .val (.long q5), .second, .val (.int x0), .val (.int nr), .val (.int y2), .val (.int z2), .val (.int km), .unset, .unset, .unset, .unset, .unset, .unset, .unset, .unset, .unset, .unset, .unset, .unset] [])) := by
          intro y2 z2 h_y2 h_z2
          have hyz := own_pick hx0 hy1 hz1 h_y2 h_z2
          refine own_via (fun t k => XS.iload X0.here hx rfl (hb hby at_100) rfl k) ?_
          show OwnEnds p.tables e below _ (s₁.setTop (mkF m 102 #[.val (.int p0), .val (.int p1), .val (.int p2), .val (.int p3), .val (.int p4), .val (.long q5), .second, .val (.int x0), .val (.int nr), .val (.int y2), .val (.int z2), .val (.int km), .unset, .unset, .unset, .unset, .unset, .unset, .unset, .unset, .unset, .unset, .unset, .unset] [(.int x0)]))
          refine own_via (fun t k => XS.istore X0.here hx rfl (hb hby at_102) rfl (l' := #[.val (.int p0), .val (.int p1), .val (.int p2), .val (.int p3), .val (.int p4), .val (.long q5), .second, .val (.int x0), .val (.int nr), .val (.int y2), .val (.int z2), .val (.int km), .val (.int x0), .unset, .unset, .unset, .unset, .unset, .unset, .unset, .unset, .unset, .unset, .unset]) rfl k) ?_
          show OwnEnds p.tables e below _ (s₁.setTop (mkF m 104 #[.val (.int p0), .val (.int p1), .val (.int p2), .val (.int p3), .val (.int p4), .val (.long q5), .second, .val (.int x0), .val (.int nr), .val (.int y2), .val (.int z2), .val (.int km), .val (.int x0), .unset, .unset, .unset, .unset, .unset, .unset, .unset, .unset, .unset, .unset, .unset] []))
          refine own_via (fun t k => XS.iload X0.here hx rfl (hb hby at_104) rfl k) ?_
          show OwnEnds p.tables e below _ (s₁.setTop (mkF m 106 #[.val (.int p0), .val (.int p1), .val (.int p2), .val (.int p3), .val (.int p4), .val (.long q5), .second, .val (.int x0), .val (.int nr), .val (.int y2), .val (.int z2), .val (.int km), .val (.int x0), .unset, .unset, .unset, .unset, .unset, .unset, .unset, .unset, .unset, .unset, .unset] [(.int y2)]))
          refine own_via (fun t k => XS.istore X0.here hx rfl (hb hby at_106) rfl (l' := #[.val (.int p0), .val (.int p1), .val (.int p2), .val (.int p3), .val (.int p4), .val (.long q5), .second, .val (.int x0), .val (.int nr), .val (.int y2), .val (.int z2), .val (.int km), .val (.int x0), .val (.int y2), .unset, .unset, .unset, .unset, .unset, .unset, .unset, .unset, .unset, .unset]) rfl k) ?_
          show OwnEnds p.tables e below _ (s₁.setTop (mkF m 108 #[.val (.int p0), .val (.int p1), .val (.int p2), .val (.int p3), .val (.int p4), .val (.long q5), .second, .val (.int x0), .val (.int nr), .val (.int y2), .val (.int z2), .val (.int km), .val (.int x0), .val (.int y2), .unset, .unset, .unset, .unset, .unset, .unset, .unset, .unset, .unset, .unset] []))
          refine own_via (fun t k => XS.iload X0.here hx rfl (hb hby at_108) rfl k) ?_
          show OwnEnds p.tables e below _ (s₁.setTop (mkF m 110 #[.val (.int p0), .val (.int p1), .val (.int p2), .val (.int p3), .val (.int p4), .val (.long q5), .second, .val (.int x0), .val (.int nr), .val (.int y2), .val (.int z2), .val (.int km), .val (.int x0), .val (.int y2), .unset, .unset, .unset, .unset, .unset, .unset, .unset, .unset, .unset, .unset] [(.int z2)]))
          refine own_via (fun t k => XS.istore X0.here hx rfl (hb hby at_110) rfl (l' := #[.val (.int p0), .val (.int p1), .val (.int p2), .val (.int p3), .val (.int p4), .val (.long q5), .second, .val (.int x0), .val (.int nr), .val (.int y2), .val (.int z2), .val (.int km), .val (.int x0), .val (.int y2), .val (.int z2), .unset, .unset, .unset, .unset, .unset, .unset, .unset, .unset, .unset]) rfl k) ?_
          show OwnEnds p.tables e below _ (s₁.setTop (mkF m 112 #[.val (.int p0), .val (.int p1), .val (.int p2), .val (.int p3), .val (.int p4), .val (.long q5), .second, .val (.int x0), .val (.int nr), .val (.int y2), .val (.int z2), .val (.int km), .val (.int x0), .val (.int y2), .val (.int z2), .unset, .unset, .unset, .unset, .unset, .unset, .unset, .unset, .unset] []))
          refine own_via (fun t k => XS.iload X0.here hx rfl (hb hby at_112) rfl k) ?_
          show OwnEnds p.tables e below _ (s₁.setTop (mkF m 114 #[.val (.int p0), .val (.int p1), .val (.int p2), .val (.int p3), .val (.int p4), .val (.long q5), .second, .val (.int x0), .val (.int nr), .val (.int y2), .val (.int z2), .val (.int km), .val (.int x0), .val (.int y2), .val (.int z2), .unset, .unset, .unset, .unset, .unset, .unset, .unset, .unset, .unset] [(.int x0)]))
          refine own_via (fun t k => XS.iload X0.here hx rfl (hb hby at_114) rfl k) ?_
          show OwnEnds p.tables e below _ (s₁.setTop (mkF m 116 #[.val (.int p0), .val (.int p1), .val (.int p2), .val (.int p3), .val (.int p4), .val (.long q5), .second, .val (.int x0), .val (.int nr), .val (.int y2), .val (.int z2), .val (.int km), .val (.int x0), .val (.int y2), .val (.int z2), .unset, .unset, .unset, .unset, .unset, .unset, .unset, .unset, .unset] [(.int y2), (.int x0)]))
          have J131_5 : ∀ sl131_l15 : Slot, ∀ a1 : Int32, ∀ b1 : Int32, (sl131_l15 = .unset ∨ ∃ w, sl131_l15 = .val w ∧ w.category = 1) → a1 = (if y2 < x0 then y2 else x0) → b1 = (if y2 < x0 then x0 else y2) → OwnEnds p.tables e below (OwnQ s 16 16512 (Q0 Z p0 p1 p2 p3 p4 q5 h0 n0)) (s₁.setTop (mkF m 131 #[.val (.int p0), .val (.int p1), .val (.int p2), .val (.int p3), .val (.int p4), .val (.long q5), .second, .val (.int x0), .val (.int nr), .val (.int y2), .val (.int z2), .val (.int km), .val (.int a1), .val (.int b1), .val (.int z2), sl131_l15, .unset, .unset, .unset, .unset, .unset, .unset, .unset, .unset] [])) := by
            intro sl131_l15 a1 b1 one_sl131_l15 h_a1 h_b1
            refine own_via (fun t k => XS.iload X0.here hx rfl (hb hby at_131) rfl k) ?_
            show OwnEnds p.tables e below _ (s₁.setTop (mkF m 133 #[.val (.int p0), .val (.int p1), .val (.int p2), .val (.int p3), .val (.int p4), .val (.long q5), .second, .val (.int x0), .val (.int nr), .val (.int y2), .val (.int z2), .val (.int km), .val (.int a1), .val (.int b1), .val (.int z2), sl131_l15, .unset, .unset, .unset, .unset, .unset, .unset, .unset, .unset] [(.int b1)]))
            refine own_via (fun t k => XS.iload X0.here hx rfl (hb hby at_133) rfl k) ?_
            show OwnEnds p.tables e below _ (s₁.setTop (mkF m 135 #[.val (.int p0), .val (.int p1), .val (.int p2), .val (.int p3), .val (.int p4), .val (.long q5), .second, .val (.int x0), .val (.int nr), .val (.int y2), .val (.int z2), .val (.int km), .val (.int a1), .val (.int b1), .val (.int z2), sl131_l15, .unset, .unset, .unset, .unset, .unset, .unset, .unset, .unset] [(.int z2), (.int b1)]))
            have J150_6 : ∀ sl150_l15 : Slot, ∀ b2 : Int32, ∀ c2 : Int32, (sl150_l15 = .unset ∨ ∃ w, sl150_l15 = .val w ∧ w.category = 1) → b2 = (if z2 < b1 then z2 else b1) → c2 = (if z2 < b1 then b1 else z2) → OwnEnds p.tables e below (OwnQ s 16 16512 (Q0 Z p0 p1 p2 p3 p4 q5 h0 n0)) (s₁.setTop (mkF m 150 #[.val (.int p0), .val (.int p1), .val (.int p2), .val (.int p3), .val (.int p4), .val (.long q5), .second, .val (.int x0), .val (.int nr), .val (.int y2), .val (.int z2), .val (.int km), .val (.int a1), .val (.int b2), .val (.int c2), sl150_l15, .unset, .unset, .unset, .unset, .unset, .unset, .unset, .unset] [])) := by
              intro sl150_l15 b2 c2 one_sl150_l15 h_b2 h_c2
              refine own_via (fun t k => XS.iload X0.here hx rfl (hb hby at_150) rfl k) ?_
              show OwnEnds p.tables e below _ (s₁.setTop (mkF m 152 #[.val (.int p0), .val (.int p1), .val (.int p2), .val (.int p3), .val (.int p4), .val (.long q5), .second, .val (.int x0), .val (.int nr), .val (.int y2), .val (.int z2), .val (.int km), .val (.int a1), .val (.int b2), .val (.int c2), sl150_l15, .unset, .unset, .unset, .unset, .unset, .unset, .unset, .unset] [(.int a1)]))
              refine own_via (fun t k => XS.iload X0.here hx rfl (hb hby at_152) rfl k) ?_
              show OwnEnds p.tables e below _ (s₁.setTop (mkF m 154 #[.val (.int p0), .val (.int p1), .val (.int p2), .val (.int p3), .val (.int p4), .val (.long q5), .second, .val (.int x0), .val (.int nr), .val (.int y2), .val (.int z2), .val (.int km), .val (.int a1), .val (.int b2), .val (.int c2), sl150_l15, .unset, .unset, .unset, .unset, .unset, .unset, .unset, .unset] [(.int b2), (.int a1)]))
              have J169_7 : ∀ sl169_l15 : Slot, ∀ a3 : Int32, ∀ b3 : Int32, (sl169_l15 = .unset ∨ ∃ w, sl169_l15 = .val w ∧ w.category = 1) → a3 = (if b2 < a1 then b2 else a1) → b3 = (if b2 < a1 then a1 else b2) → OwnEnds p.tables e below (OwnQ s 16 16512 (Q0 Z p0 p1 p2 p3 p4 q5 h0 n0)) (s₁.setTop (mkF m 169 #[.val (.int p0), .val (.int p1), .val (.int p2), .val (.int p3), .val (.int p4), .val (.long q5), .second, .val (.int x0), .val (.int nr), .val (.int y2), .val (.int z2), .val (.int km), .val (.int a3), .val (.int b3), .val (.int c2), sl169_l15, .unset, .unset, .unset, .unset, .unset, .unset, .unset, .unset] [])) := by
                intro sl169_l15 a3 b3 one_sl169_l15 h_a3 h_b3
                obtain ⟨hr_a3, hr_b3, hr_c2, hab, hbc⟩ := own_sort hx0 hyz.1 hyz.2 h_a1 h_b1 h_b2 h_c2 h_a3 h_b3
                refine own_via (fun t k => XS.iconst X0.here hx rfl (hb hby at_169) k) ?_
                show OwnEnds p.tables e below _ (s₁.setTop (mkF m 170 #[.val (.int p0), .val (.int p1), .val (.int p2), .val (.int p3), .val (.int p4), .val (.long q5), .second, .val (.int x0), .val (.int nr), .val (.int y2), .val (.int z2), .val (.int km), .val (.int a3), .val (.int b3), .val (.int c2), sl169_l15, .unset, .unset, .unset, .unset, .unset, .unset, .unset, .unset] [(.int (3 : Int32))]))
                obtain ⟨T8, h8, k8, X8, e8, E8, A8, st8⟩ := newP X0 hx hZ (hw _ (List.mem_of_getElem? (i := 1) rfl)) e0 (g := (mkF m 170 #[.val (.int p0), .val (.int p1), .val (.int p2), .val (.int p3), .val (.int p4), .val (.long q5), .second, .val (.int x0), .val (.int nr), .val (.int y2), .val (.int z2), .val (.int km), .val (.int a3), .val (.int b3), .val (.int c2), sl169_l15, .unset, .unset, .unset, .unset, .unset, .unset, .unset, .unset] [(.int (3 : Int32))])) rfl (hb hby at_170) rfl (by decide) (cap := 3) (by decide) (by decide) (by decide) (by decide)
                obtain ⟨b8, g8⟩ : ∃ z, z = h0.size := ⟨_, rfl⟩
                rw [← g8] at A8 st8
                have g_b8 : n0 ≤ b8 := Nat.le_trans Z0 (Nat.le_of_eq g8.symm)
                have Zs_8 : n0 ≤ _ := Nat.le_trans Z0 E8.1
                have A_b8 : AL Z h8 b8 .int [(.int (0 : Int32)), (.int (0 : Int32)), (.int (0 : Int32))] := AL.new A8 (by decide) (i := 3) rfl
                refine own_via st8 ?_
                show OwnEnds p.tables e below _ (T8.setTop (mkF m 172 #[.val (.int p0), .val (.int p1), .val (.int p2), .val (.int p3), .val (.int p4), .val (.long q5), .second, .val (.int x0), .val (.int nr), .val (.int y2), .val (.int z2), .val (.int km), .val (.int a3), .val (.int b3), .val (.int c2), sl169_l15, .unset, .unset, .unset, .unset, .unset, .unset, .unset, .unset] [(.ref b8)]))
                refine own_via (fun t k => XS.astore X8.here hx rfl (hb hby at_172) rfl rfl (l' := #[.val (.int p0), .val (.int p1), .val (.int p2), .val (.int p3), .val (.int p4), .val (.long q5), .second, .val (.int x0), .val (.int nr), .val (.int y2), .val (.int z2), .val (.int km), .val (.int a3), .val (.int b3), .val (.int c2), sl169_l15, .val (.ref b8), .unset, .unset, .unset, .unset, .unset, .unset, .unset]) rfl k) ?_
                show OwnEnds p.tables e below _ (T8.setTop (mkF m 174 #[.val (.int p0), .val (.int p1), .val (.int p2), .val (.int p3), .val (.int p4), .val (.long q5), .second, .val (.int x0), .val (.int nr), .val (.int y2), .val (.int z2), .val (.int km), .val (.int a3), .val (.int b3), .val (.int c2), sl169_l15, .val (.ref b8), .unset, .unset, .unset, .unset, .unset, .unset, .unset] []))
                refine own_via (fun t k => XS.iconst X8.here hx rfl (hb hby at_174) k) ?_
                show OwnEnds p.tables e below _ (T8.setTop (mkF m 175 #[.val (.int p0), .val (.int p1), .val (.int p2), .val (.int p3), .val (.int p4), .val (.long q5), .second, .val (.int x0), .val (.int nr), .val (.int y2), .val (.int z2), .val (.int km), .val (.int a3), .val (.int b3), .val (.int c2), sl169_l15, .val (.ref b8), .unset, .unset, .unset, .unset, .unset, .unset, .unset] [(.int (1 : Int32))]))
                refine own_via (fun t k => XS.istore X8.here hx rfl (hb hby at_175) rfl (l' := #[.val (.int p0), .val (.int p1), .val (.int p2), .val (.int p3), .val (.int p4), .val (.long q5), .second, .val (.int x0), .val (.int nr), .val (.int y2), .val (.int z2), .val (.int km), .val (.int a3), .val (.int b3), .val (.int c2), sl169_l15, .val (.ref b8), .val (.int (1 : Int32)), .unset, .unset, .unset, .unset, .unset, .unset]) rfl k) ?_
                show OwnEnds p.tables e below _ (T8.setTop (mkF m 177 #[.val (.int p0), .val (.int p1), .val (.int p2), .val (.int p3), .val (.int p4), .val (.long q5), .second, .val (.int x0), .val (.int nr), .val (.int y2), .val (.int z2), .val (.int km), .val (.int a3), .val (.int b3), .val (.int c2), sl169_l15, .val (.ref b8), .val (.int (1 : Int32)), .unset, .unset, .unset, .unset, .unset, .unset] []))
                refine own_via (fun t k => XS.aload X8.here hx rfl (hb hby at_177) rfl rfl k) ?_
                show OwnEnds p.tables e below _ (T8.setTop (mkF m 179 #[.val (.int p0), .val (.int p1), .val (.int p2), .val (.int p3), .val (.int p4), .val (.long q5), .second, .val (.int x0), .val (.int nr), .val (.int y2), .val (.int z2), .val (.int km), .val (.int a3), .val (.int b3), .val (.int c2), sl169_l15, .val (.ref b8), .val (.int (1 : Int32)), .unset, .unset, .unset, .unset, .unset, .unset] [(.ref b8)]))
                refine own_via (fun t k => XS.iconst X8.here hx rfl (hb hby at_179) k) ?_
                show OwnEnds p.tables e below _ (T8.setTop (mkF m 180 #[.val (.int p0), .val (.int p1), .val (.int p2), .val (.int p3), .val (.int p4), .val (.long q5), .second, .val (.int x0), .val (.int nr), .val (.int y2), .val (.int z2), .val (.int km), .val (.int a3), .val (.int b3), .val (.int c2), sl169_l15, .val (.ref b8), .val (.int (1 : Int32)), .unset, .unset, .unset, .unset, .unset, .unset] [(.int (0 : Int32)), (.ref b8)]))
                refine own_via (fun t k => XS.iload X8.here hx rfl (hb hby at_180) rfl k) ?_
                show OwnEnds p.tables e below _ (T8.setTop (mkF m 182 #[.val (.int p0), .val (.int p1), .val (.int p2), .val (.int p3), .val (.int p4), .val (.long q5), .second, .val (.int x0), .val (.int nr), .val (.int y2), .val (.int z2), .val (.int km), .val (.int a3), .val (.int b3), .val (.int c2), sl169_l15, .val (.ref b8), .val (.int (1 : Int32)), .unset, .unset, .unset, .unset, .unset, .unset] [(.int a3), (.int (0 : Int32)), (.ref b8)]))
                obtain ⟨T9, h9, X9, e9, W9, AA9, st9⟩ := own_stI X8 hx hZ e8 A_b8 0 rfl (Nat.le_of_ble_eq_true rfl) (g := (mkF m 182 #[.val (.int p0), .val (.int p1), .val (.int p2), .val (.int p3), .val (.int p4), .val (.long q5), .second, .val (.int x0), .val (.int nr), .val (.int y2), .val (.int z2), .val (.int km), .val (.int a3), .val (.int b3), .val (.int c2), sl169_l15, .val (.ref b8), .val (.int (1 : Int32)), .unset, .unset, .unset, .unset, .unset, .unset] [(.int a3), (.int (0 : Int32)), (.ref b8)])) rfl rfl (hb hby at_182)
                have Zs_W9 : n0 ≤ _ := Nat.le_trans Zs_8 (Keep.of_wr W9).1
                replace A_b8 : AL Z h9 b8 .int [(.int a3), (.int (0 : Int32)), (.int (0 : Int32))] := AA9
                have N9 := Fr.snoc X9 N0 g_b8
                refine own_via st9 ?_
                show OwnEnds p.tables e below _ (T9.setTop (mkF m 183 #[.val (.int p0), .val (.int p1), .val (.int p2), .val (.int p3), .val (.int p4), .val (.long q5), .second, .val (.int x0), .val (.int nr), .val (.int y2), .val (.int z2), .val (.int km), .val (.int a3), .val (.int b3), .val (.int c2), sl169_l15, .val (.ref b8), .val (.int (1 : Int32)), .unset, .unset, .unset, .unset, .unset, .unset] []))
                refine own_via (fun t k => XS.iload X9.here hx rfl (hb hby at_183) rfl k) ?_
                show OwnEnds p.tables e below _ (T9.setTop (mkF m 185 #[.val (.int p0), .val (.int p1), .val (.int p2), .val (.int p3), .val (.int p4), .val (.long q5), .second, .val (.int x0), .val (.int nr), .val (.int y2), .val (.int z2), .val (.int km), .val (.int a3), .val (.int b3), .val (.int c2), sl169_l15, .val (.ref b8), .val (.int (1 : Int32)), .unset, .unset, .unset, .unset, .unset, .unset] [(.int b3)]))
                refine own_via (fun t k => XS.iload X9.here hx rfl (hb hby at_185) rfl k) ?_
                show OwnEnds p.tables e below _ (T9.setTop (mkF m 187 #[.val (.int p0), .val (.int p1), .val (.int p2), .val (.int p3), .val (.int p4), .val (.long q5), .second, .val (.int x0), .val (.int nr), .val (.int y2), .val (.int z2), .val (.int km), .val (.int a3), .val (.int b3), .val (.int c2), sl169_l15, .val (.ref b8), .val (.int (1 : Int32)), .unset, .unset, .unset, .unset, .unset, .unset] [(.int a3), (.int b3)]))
                by_cases hc187_10 : b3 = a3
                · skip
                  refine own_via (fun t k => XS.icmpYes X9.here hx rfl (pc0 := 187) (pc' := 203) rfl (hb hby at_187) rfl (teq hc187_10).1 (by decide) (by decide) k) ?_
                  show OwnEnds p.tables e below _ (T9.setTop (mkF m 203 #[.val (.int p0), .val (.int p1), .val (.int p2), .val (.int p3), .val (.int p4), .val (.long q5), .second, .val (.int x0), .val (.int nr), .val (.int y2), .val (.int z2), .val (.int km), .val (.int a3), .val (.int b3), .val (.int c2), sl169_l15, .val (.ref b8), .val (.int (1 : Int32)), .unset, .unset, .unset, .unset, .unset, .unset] []))
                  refine own_via (fun t k => XS.iload X9.here hx rfl (hb hby at_203) rfl k) ?_
                  show OwnEnds p.tables e below _ (T9.setTop (mkF m 205 #[.val (.int p0), .val (.int p1), .val (.int p2), .val (.int p3), .val (.int p4), .val (.long q5), .second, .val (.int x0), .val (.int nr), .val (.int y2), .val (.int z2), .val (.int km), .val (.int a3), .val (.int b3), .val (.int c2), sl169_l15, .val (.ref b8), .val (.int (1 : Int32)), .unset, .unset, .unset, .unset, .unset, .unset] [(.int c2)]))
                  refine own_via (fun t k => XS.iload X9.here hx rfl (hb hby at_205) rfl k) ?_
                  show OwnEnds p.tables e below _ (T9.setTop (mkF m 207 #[.val (.int p0), .val (.int p1), .val (.int p2), .val (.int p3), .val (.int p4), .val (.long q5), .second, .val (.int x0), .val (.int nr), .val (.int y2), .val (.int z2), .val (.int km), .val (.int a3), .val (.int b3), .val (.int c2), sl169_l15, .val (.ref b8), .val (.int (1 : Int32)), .unset, .unset, .unset, .unset, .unset, .unset] [(.int b3), (.int c2)]))
                  by_cases hc207_11 : c2 = b3
                  · skip
                    refine own_via (fun t k => XS.icmpYes X9.here hx rfl (pc0 := 207) (pc' := 223) rfl (hb hby at_207) rfl (teq hc207_11).1 (by decide) (by decide) k) ?_
                    show OwnEnds p.tables e below _ (T9.setTop (mkF m 223 #[.val (.int p0), .val (.int p1), .val (.int p2), .val (.int p3), .val (.int p4), .val (.long q5), .second, .val (.int x0), .val (.int nr), .val (.int y2), .val (.int z2), .val (.int km), .val (.int a3), .val (.int b3), .val (.int c2), sl169_l15, .val (.ref b8), .val (.int (1 : Int32)), .unset, .unset, .unset, .unset, .unset, .unset] []))
                    refine own_via (fun t k => XS.iload X9.here hx rfl (hb hby at_223) rfl k) ?_
                    show OwnEnds p.tables e below _ (T9.setTop (mkF m 225 #[.val (.int p0), .val (.int p1), .val (.int p2), .val (.int p3), .val (.int p4), .val (.long q5), .second, .val (.int x0), .val (.int nr), .val (.int y2), .val (.int z2), .val (.int km), .val (.int a3), .val (.int b3), .val (.int c2), sl169_l15, .val (.ref b8), .val (.int (1 : Int32)), .unset, .unset, .unset, .unset, .unset, .unset] [(.int (1 : Int32))]))
                    refine own_via (fun t k => XS.iconst X9.here hx rfl (hb hby at_225) k) ?_
                    show OwnEnds p.tables e below _ (T9.setTop (mkF m 226 #[.val (.int p0), .val (.int p1), .val (.int p2), .val (.int p3), .val (.int p4), .val (.long q5), .second, .val (.int x0), .val (.int nr), .val (.int y2), .val (.int z2), .val (.int km), .val (.int a3), .val (.int b3), .val (.int c2), sl169_l15, .val (.ref b8), .val (.int (1 : Int32)), .unset, .unset, .unset, .unset, .unset, .unset] [(.int (1 : Int32)), (.int (1 : Int32))]))
                    have hc226_12 : (1 : Int32) = (1 : Int32) := by decide
                    refine own_via (fun t k => XS.icmpNo X9.here hx rfl (hb hby at_226) rfl (teq hc226_12).2 k) ?_
                    show OwnEnds p.tables e below _ (T9.setTop (mkF m 229 #[.val (.int p0), .val (.int p1), .val (.int p2), .val (.int p3), .val (.int p4), .val (.long q5), .second, .val (.int x0), .val (.int nr), .val (.int y2), .val (.int z2), .val (.int km), .val (.int a3), .val (.int b3), .val (.int c2), sl169_l15, .val (.ref b8), .val (.int (1 : Int32)), .unset, .unset, .unset, .unset, .unset, .unset] []))
                    refine own_via (fun t k => XS.iconst X9.here hx rfl (hb hby at_229) k) ?_
                    show OwnEnds p.tables e below _ (T9.setTop (mkF m 230 #[.val (.int p0), .val (.int p1), .val (.int p2), .val (.int p3), .val (.int p4), .val (.long q5), .second, .val (.int x0), .val (.int nr), .val (.int y2), .val (.int z2), .val (.int km), .val (.int a3), .val (.int b3), .val (.int c2), sl169_l15, .val (.ref b8), .val (.int (1 : Int32)), .unset, .unset, .unset, .unset, .unset, .unset] [(.int (1 : Int32))]))
                    obtain ⟨T13, h13, k13, X13, e13, E13, A13, st13⟩ := newP X9 hx hZ (hw _ (List.mem_of_getElem? (i := 1) rfl)) e9 (g := (mkF m 230 #[.val (.int p0), .val (.int p1), .val (.int p2), .val (.int p3), .val (.int p4), .val (.long q5), .second, .val (.int x0), .val (.int nr), .val (.int y2), .val (.int z2), .val (.int km), .val (.int a3), .val (.int b3), .val (.int c2), sl169_l15, .val (.ref b8), .val (.int (1 : Int32)), .unset, .unset, .unset, .unset, .unset, .unset] [(.int (1 : Int32))])) rfl (hb hby at_230) rfl (by decide) (cap := 1) (by decide) (by decide) (by decide) (by decide)
                    obtain ⟨b13, g13⟩ : ∃ z, z = h9.size := ⟨_, rfl⟩
                    rw [← g13] at A13 st13
                    have ne_b8_b13 : b8 ≠ b13 := Nat.ne_of_lt (Nat.lt_of_lt_of_le A_b8.lt (Nat.le_of_eq g13.symm))
                    have g_b13 : n0 ≤ b13 := Nat.le_trans Zs_W9 (Nat.le_of_eq g13.symm)
                    have Zs_13 : n0 ≤ _ := Nat.le_trans Zs_W9 E13.1
                    replace A_b8 := A_b8.ext E13
                    have A_b13 : AL Z h13 b13 .int [(.int (0 : Int32))] := AL.new A13 (by decide) (i := 1) rfl
                    refine own_via st13 ?_
                    show OwnEnds p.tables e below _ (T13.setTop (mkF m 232 #[.val (.int p0), .val (.int p1), .val (.int p2), .val (.int p3), .val (.int p4), .val (.long q5), .second, .val (.int x0), .val (.int nr), .val (.int y2), .val (.int z2), .val (.int km), .val (.int a3), .val (.int b3), .val (.int c2), sl169_l15, .val (.ref b8), .val (.int (1 : Int32)), .unset, .unset, .unset, .unset, .unset, .unset] [(.ref b13)]))
                    refine own_via (fun t k => XS.dup X13.here hx rfl (hb hby at_232) rfl rfl k) ?_
                    show OwnEnds p.tables e below _ (T13.setTop (mkF m 233 #[.val (.int p0), .val (.int p1), .val (.int p2), .val (.int p3), .val (.int p4), .val (.long q5), .second, .val (.int x0), .val (.int nr), .val (.int y2), .val (.int z2), .val (.int km), .val (.int a3), .val (.int b3), .val (.int c2), sl169_l15, .val (.ref b8), .val (.int (1 : Int32)), .unset, .unset, .unset, .unset, .unset, .unset] [(.ref b13), (.ref b13)]))
                    refine own_via (fun t k => XS.iconst X13.here hx rfl (hb hby at_233) k) ?_
                    show OwnEnds p.tables e below _ (T13.setTop (mkF m 234 #[.val (.int p0), .val (.int p1), .val (.int p2), .val (.int p3), .val (.int p4), .val (.long q5), .second, .val (.int x0), .val (.int nr), .val (.int y2), .val (.int z2), .val (.int km), .val (.int a3), .val (.int b3), .val (.int c2), sl169_l15, .val (.ref b8), .val (.int (1 : Int32)), .unset, .unset, .unset, .unset, .unset, .unset] [(.int (0 : Int32)), (.ref b13), (.ref b13)]))
                    refine own_via (fun t k => XS.aload X13.here hx rfl (hb hby at_234) rfl rfl k) ?_
                    show OwnEnds p.tables e below _ (T13.setTop (mkF m 236 #[.val (.int p0), .val (.int p1), .val (.int p2), .val (.int p3), .val (.int p4), .val (.long q5), .second, .val (.int x0), .val (.int nr), .val (.int y2), .val (.int z2), .val (.int km), .val (.int a3), .val (.int b3), .val (.int c2), sl169_l15, .val (.ref b8), .val (.int (1 : Int32)), .unset, .unset, .unset, .unset, .unset, .unset] [(.ref b8), (.int (0 : Int32)), (.ref b13), (.ref b13)]))
                    refine own_via (fun t k => XS.iconst X13.here hx rfl (hb hby at_236) k) ?_
                    show OwnEnds p.tables e below _ (T13.setTop (mkF m 237 #[.val (.int p0), .val (.int p1), .val (.int p2), .val (.int p3), .val (.int p4), .val (.long q5), .second, .val (.int x0), .val (.int nr), .val (.int y2), .val (.int z2), .val (.int km), .val (.int a3), .val (.int b3), .val (.int c2), sl169_l15, .val (.ref b8), .val (.int (1 : Int32)), .unset, .unset, .unset, .unset, .unset, .unset] [(.int (0 : Int32)), (.ref b8), (.int (0 : Int32)), (.ref b13), (.ref b13)]))
                    refine own_via (own_ldI X13 hx hZ e13 A_b8 (v := (.int a3)) 0 rfl rfl (g := (mkF m 237 #[.val (.int p0), .val (.int p1), .val (.int p2), .val (.int p3), .val (.int p4), .val (.long q5), .second, .val (.int x0), .val (.int nr), .val (.int y2), .val (.int z2), .val (.int km), .val (.int a3), .val (.int b3), .val (.int c2), sl169_l15, .val (.ref b8), .val (.int (1 : Int32)), .unset, .unset, .unset, .unset, .unset, .unset] [(.int (0 : Int32)), (.ref b8), (.int (0 : Int32)), (.ref b13), (.ref b13)])) rfl rfl (hb hby at_237)) ?_
                    show OwnEnds p.tables e below _ (T13.setTop (mkF m 238 #[.val (.int p0), .val (.int p1), .val (.int p2), .val (.int p3), .val (.int p4), .val (.long q5), .second, .val (.int x0), .val (.int nr), .val (.int y2), .val (.int z2), .val (.int km), .val (.int a3), .val (.int b3), .val (.int c2), sl169_l15, .val (.ref b8), .val (.int (1 : Int32)), .unset, .unset, .unset, .unset, .unset, .unset] [(.int a3), (.int (0 : Int32)), (.ref b13), (.ref b13)]))
                    obtain ⟨T14, h14, X14, e14, W14, AA14, st14⟩ := own_stI X13 hx hZ e13 A_b13 0 rfl (Nat.le_of_ble_eq_true rfl) (g := (mkF m 238 #[.val (.int p0), .val (.int p1), .val (.int p2), .val (.int p3), .val (.int p4), .val (.long q5), .second, .val (.int x0), .val (.int nr), .val (.int y2), .val (.int z2), .val (.int km), .val (.int a3), .val (.int b3), .val (.int c2), sl169_l15, .val (.ref b8), .val (.int (1 : Int32)), .unset, .unset, .unset, .unset, .unset, .unset] [(.int a3), (.int (0 : Int32)), (.ref b13), (.ref b13)])) rfl rfl (hb hby at_238)
                    replace A_b8 := A_b8.other W14 ne_b8_b13
                    have Zs_W14 : n0 ≤ _ := Nat.le_trans Zs_13 (Keep.of_wr W14).1
                    replace A_b13 : AL Z h14 b13 .int [(.int a3)] := AA14
                    have N14 := Fr.snoc X14 N9 g_b13
                    refine own_via st14 ?_
                    show OwnEnds p.tables e below _ (T14.setTop (mkF m 239 #[.val (.int p0), .val (.int p1), .val (.int p2), .val (.int p3), .val (.int p4), .val (.long q5), .second, .val (.int x0), .val (.int nr), .val (.int y2), .val (.int z2), .val (.int km), .val (.int a3), .val (.int b3), .val (.int c2), sl169_l15, .val (.ref b8), .val (.int (1 : Int32)), .unset, .unset, .unset, .unset, .unset, .unset] [(.ref b13)]))
                    refine own_via (fun t k => XS.astore X14.here hx rfl (hb hby at_239) rfl rfl (l' := #[.val (.int p0), .val (.int p1), .val (.int p2), .val (.int p3), .val (.int p4), .val (.long q5), .second, .val (.int x0), .val (.int nr), .val (.int y2), .val (.int z2), .val (.int km), .val (.int a3), .val (.int b3), .val (.int c2), sl169_l15, .val (.ref b8), .val (.int (1 : Int32)), .val (.ref b13), .unset, .unset, .unset, .unset, .unset]) rfl k) ?_
                    show OwnEnds p.tables e below _ (T14.setTop (mkF m 241 #[.val (.int p0), .val (.int p1), .val (.int p2), .val (.int p3), .val (.int p4), .val (.long q5), .second, .val (.int x0), .val (.int nr), .val (.int y2), .val (.int z2), .val (.int km), .val (.int a3), .val (.int b3), .val (.int c2), sl169_l15, .val (.ref b8), .val (.int (1 : Int32)), .val (.ref b13), .unset, .unset, .unset, .unset, .unset] []))
                    refine own_via (fun t k => XS.goto X14.here hx rfl (pc0 := 241) (pc' := 298) rfl (hb hby at_241) (by decide) (by decide) k) ?_
                    show OwnEnds p.tables e below _ (T14.setTop (mkF m 298 #[.val (.int p0), .val (.int p1), .val (.int p2), .val (.int p3), .val (.int p4), .val (.long q5), .second, .val (.int x0), .val (.int nr), .val (.int y2), .val (.int z2), .val (.int km), .val (.int a3), .val (.int b3), .val (.int c2), sl169_l15, .val (.ref b8), .val (.int (1 : Int32)), .val (.ref b13), .unset, .unset, .unset, .unset, .unset] []))
                    obtain ⟨T15, h15, X15, e15, E15, A15, D15, -, st15⟩ := newO X14 hx hZ hown (hw _ (List.mem_of_getElem? (i := 2) rfl)) (hw _ (List.mem_of_getElem? (i := 3) rfl)) (hw _ (List.mem_of_getElem? (i := 4) rfl)) e14 (g := (mkF m 298 #[.val (.int p0), .val (.int p1), .val (.int p2), .val (.int p3), .val (.int p4), .val (.long q5), .second, .val (.int x0), .val (.int nr), .val (.int y2), .val (.int z2), .val (.int km), .val (.int a3), .val (.int b3), .val (.int c2), sl169_l15, .val (.ref b8), .val (.int (1 : Int32)), .val (.ref b13), .unset, .unset, .unset, .unset, .unset] [])) rfl (hb hby at_298) (by decide) (by decide)
                    obtain ⟨b15, g15⟩ : ∃ z, z = h14.size := ⟨_, rfl⟩
                    rw [← g15] at A15 D15 st15
                    have ne_b13_b15 : b13 ≠ b15 := Nat.ne_of_lt (Nat.lt_of_lt_of_le A_b13.lt (Nat.le_of_eq g15.symm))
                    have ne_b8_b15 : b8 ≠ b15 := Nat.ne_of_lt (Nat.lt_of_lt_of_le A_b8.lt (Nat.le_of_eq g15.symm))
                    have g_b15 : n0 ≤ b15 := Nat.le_trans Zs_W14 (Nat.le_of_eq g15.symm)
                    have Zs_15 : n0 ≤ _ := Nat.le_trans Zs_W14 E15.1
                    replace A_b8 := A_b8.ext E15
                    replace A_b13 := A_b13.ext E15
                    have E_b15 := A15
                    have F_index_b15 : Fld Z h15 b15 "com/example/crowd_cache/crowdcache/core/Bucket" "index" "J" (.long (0 : Int64)) := D15 (Or.inr (hw _ (List.mem_of_getElem? (i := 13) rfl))) (ty := .long) (by decide)
                    have F_positions_b15 : Fld Z h15 b15 "com/example/crowd_cache/crowdcache/core/Bucket" "positions" "[I" .null := D15 (Or.inr (hw _ (List.mem_of_getElem? (i := 15) rfl))) (ty := (.array .int)) (by decide)
                    refine own_via st15 ?_
                    show OwnEnds p.tables e below _ (T15.setTop (mkF m 301 #[.val (.int p0), .val (.int p1), .val (.int p2), .val (.int p3), .val (.int p4), .val (.long q5), .second, .val (.int x0), .val (.int nr), .val (.int y2), .val (.int z2), .val (.int km), .val (.int a3), .val (.int b3), .val (.int c2), sl169_l15, .val (.ref b8), .val (.int (1 : Int32)), .val (.ref b13), .unset, .unset, .unset, .unset, .unset] [(.ref b15)]))
                    refine own_via (fun t k => XS.dup X15.here hx rfl (hb hby at_301) rfl rfl k) ?_
                    show OwnEnds p.tables e below _ (T15.setTop (mkF m 302 #[.val (.int p0), .val (.int p1), .val (.int p2), .val (.int p3), .val (.int p4), .val (.long q5), .second, .val (.int x0), .val (.int nr), .val (.int y2), .val (.int z2), .val (.int km), .val (.int a3), .val (.int b3), .val (.int c2), sl169_l15, .val (.ref b8), .val (.int (1 : Int32)), .val (.ref b13), .unset, .unset, .unset, .unset, .unset] [(.ref b15), (.ref b15)]))
                    refine own_via (fun t k => XS.lload X15.here hx rfl (hb hby at_302) rfl k) ?_
                    show OwnEnds p.tables e below _ (T15.setTop (mkF m 304 #[.val (.int p0), .val (.int p1), .val (.int p2), .val (.int p3), .val (.int p4), .val (.long q5), .second, .val (.int x0), .val (.int nr), .val (.int y2), .val (.int z2), .val (.int km), .val (.int a3), .val (.int b3), .val (.int c2), sl169_l15, .val (.ref b8), .val (.int (1 : Int32)), .val (.ref b13), .unset, .unset, .unset, .unset, .unset] [(.long q5), (.ref b15), (.ref b15)]))
                    refine own_via (X15.ldc2Long hx hown (mvT hZ (hw _ (List.mem_of_getElem? (i := 5) rfl))) (g := (mkF m 304 #[.val (.int p0), .val (.int p1), .val (.int p2), .val (.int p3), .val (.int p4), .val (.long q5), .second, .val (.int x0), .val (.int nr), .val (.int y2), .val (.int z2), .val (.int km), .val (.int a3), .val (.int b3), .val (.int c2), sl169_l15, .val (.ref b8), .val (.int (1 : Int32)), .val (.ref b13), .unset, .unset, .unset, .unset, .unset] [(.long q5), (.ref b15), (.ref b15)])) rfl (hb hby at_304)) ?_
                    show OwnEnds p.tables e below _ (T15.setTop (mkF m 307 #[.val (.int p0), .val (.int p1), .val (.int p2), .val (.int p3), .val (.int p4), .val (.long q5), .second, .val (.int x0), .val (.int nr), .val (.int y2), .val (.int z2), .val (.int km), .val (.int a3), .val (.int b3), .val (.int c2), sl169_l15, .val (.ref b8), .val (.int (1 : Int32)), .val (.ref b13), .unset, .unset, .unset, .unset, .unset] [(.long (140737488355327 : Int64)), (.long q5), (.ref b15), (.ref b15)]))
                    refine own_via (fun t k => XS.land X15.here hx rfl (hb hby at_307) rfl k) ?_
                    show OwnEnds p.tables e below _ (T15.setTop (mkF m 308 #[.val (.int p0), .val (.int p1), .val (.int p2), .val (.int p3), .val (.int p4), .val (.long q5), .second, .val (.int x0), .val (.int nr), .val (.int y2), .val (.int z2), .val (.int km), .val (.int a3), .val (.int b3), .val (.int c2), sl169_l15, .val (.ref b8), .val (.int (1 : Int32)), .val (.ref b13), .unset, .unset, .unset, .unset, .unset] [(.long (q5 &&& (140737488355327 : Int64))), (.ref b15), (.ref b15)]))
                    refine own_via (fun t k => XS.aload X15.here hx rfl (hb hby at_308) rfl rfl k) ?_
                    show OwnEnds p.tables e below _ (T15.setTop (mkF m 310 #[.val (.int p0), .val (.int p1), .val (.int p2), .val (.int p3), .val (.int p4), .val (.long q5), .second, .val (.int x0), .val (.int nr), .val (.int y2), .val (.int z2), .val (.int km), .val (.int a3), .val (.int b3), .val (.int c2), sl169_l15, .val (.ref b8), .val (.int (1 : Int32)), .val (.ref b13), .unset, .unset, .unset, .unset, .unset] [(.ref b13), (.long (q5 &&& (140737488355327 : Int64))), (.ref b15), (.ref b15)]))
                    obtain ⟨_, _, ⟨T16, L16, k16, n16⟩, -, X16, ⟨Lc16, hQ16, l16, y16, z16⟩, st16⟩ := X15.specialBack hx (y := (⟨"com/example/crowd_cache/crowdcache/core/Bucket", "<init>", "(J[I)V"⟩ : MethodName)) rfl hown (mvT hZ (hw _ (List.mem_of_getElem? (i := 6) rfl))) (mvT hZ (hw _ (List.mem_of_getElem? (i := 7) rfl))) (mvT hZ (hw _ (List.mem_of_getElem? (i := 8) rfl))) (by decide) (backOf (W := 1) (rm1 l Z aw hw [] b15 (q5 &&& (140737488355327 : Int64)) b13 h15 n0 Zs_15 E_b15 F_index_b15 F_positions_b15 g_b15) hZ (hw _ (List.mem_of_getElem? (i := 8) rfl)) (hw _ (List.mem_of_getElem? (i := 4) rfl)) (by decide) (by decide)) (g := (mkF m 310 #[.val (.int p0), .val (.int p1), .val (.int p2), .val (.int p3), .val (.int p4), .val (.long q5), .second, .val (.int x0), .val (.int nr), .val (.int y2), .val (.int z2), .val (.int km), .val (.int a3), .val (.int b3), .val (.int c2), sl169_l15, .val (.ref b8), .val (.int (1 : Int32)), .val (.ref b13), .unset, .unset, .unset, .unset, .unset] [(.ref b13), (.long (q5 &&& (140737488355327 : Int64))), (.ref b15), (.ref b15)])) rfl (by rw [hml]; rfl) (Steps.refl _) (a := b15) (argsL := [(.long (q5 &&& (140737488355327 : Int64))), (.ref b13)]) (rest := [(.ref b15)]) (lenOf pd_2 rfl) rfl (by show 2 * 0 + _ ≤ _; exact Nat.le_of_eq rfl) (hb hby at_310) (fun _ _ => ⟨rfl, e15, (by decide : 3 + 0 ≤ _), (by decide : 6 + 0 ≤ _)⟩)
                    dsimp only [Pt.U, Pt.locs, Pt.cells, Pt.slots] at X16 l16 y16 z16 st16 hQ16
                    subst l16 y16 z16
                    obtain ⟨h16, e16⟩ : ∃ z, T16.heap = z := ⟨_, rfl⟩
                    rw [e16] at hQ16
                    obtain ⟨rfl, Nq16, K16, Y16_0, Y16_1, Y16_2⟩ := hQ16
                    have N16 := Fr.app N14 Nq16
                    replace A_b8 := A_b8.keep K16 (ninS ne_b8_b15 nin0)
                    replace A_b13 := A_b13.keep K16 (ninS ne_b13_b15 nin0)
                    replace E_b15 := E_b15.keep K16
                    have F_index_b15 : Fld Z h16 b15 "com/example/crowd_cache/crowdcache/core/Bucket" "index" "J" (.long (q5 &&& (140737488355327 : Int64))) := Y16_1
                    have F_positions_b15 : Fld Z h16 b15 "com/example/crowd_cache/crowdcache/core/Bucket" "positions" "[I" (.ref b13) := Y16_2
                    have Zs_16 : n0 ≤ _ := Nat.le_trans Zs_15 K16.1
                    refine own_of st16 ?_
                    show OwnEnds p.tables e below _ (T16.setTop (mkF m 313 #[.val (.int p0), .val (.int p1), .val (.int p2), .val (.int p3), .val (.int p4), .val (.long q5), .second, .val (.int x0), .val (.int nr), .val (.int y2), .val (.int z2), .val (.int km), .val (.int a3), .val (.int b3), .val (.int c2), sl169_l15, .val (.ref b8), .val (.int (1 : Int32)), .val (.ref b13), .unset, .unset, .unset, .unset, .unset] [(.ref b15)]))
                    refine own_via (fun t k => XS.astore X16.here hx rfl (hb hby at_313) rfl rfl (l' := #[.val (.int p0), .val (.int p1), .val (.int p2), .val (.int p3), .val (.int p4), .val (.long q5), .second, .val (.int x0), .val (.int nr), .val (.int y2), .val (.int z2), .val (.int km), .val (.int a3), .val (.int b3), .val (.int c2), sl169_l15, .val (.ref b8), .val (.int (1 : Int32)), .val (.ref b13), .val (.ref b15), .unset, .unset, .unset, .unset]) rfl k) ?_
                    show OwnEnds p.tables e below _ (T16.setTop (mkF m 315 #[.val (.int p0), .val (.int p1), .val (.int p2), .val (.int p3), .val (.int p4), .val (.long q5), .second, .val (.int x0), .val (.int nr), .val (.int y2), .val (.int z2), .val (.int km), .val (.int a3), .val (.int b3), .val (.int c2), sl169_l15, .val (.ref b8), .val (.int (1 : Int32)), .val (.ref b13), .val (.ref b15), .unset, .unset, .unset, .unset] []))
                    refine own_via (fun t k => XS.aload X16.here hx rfl (hb hby at_315) rfl rfl k) ?_
                    show OwnEnds p.tables e below _ (T16.setTop (mkF m 317 #[.val (.int p0), .val (.int p1), .val (.int p2), .val (.int p3), .val (.int p4), .val (.long q5), .second, .val (.int x0), .val (.int nr), .val (.int y2), .val (.int z2), .val (.int km), .val (.int a3), .val (.int b3), .val (.int c2), sl169_l15, .val (.ref b8), .val (.int (1 : Int32)), .val (.ref b13), .val (.ref b15), .unset, .unset, .unset, .unset] [(.ref b15)]))
                    obtain ⟨cq17, kq17, q17a, q17b, q17c⟩ := isOf hZ e16 E_b15
                    obtain ⟨_, _, ⟨T17, L17, k17, n17⟩, -, X17, ⟨Lc17, hQ17, l17, y17, z17⟩, st17⟩ := X16.virtualBack hx (y := (⟨"com/example/crowd_cache/crowdcache/core/Bucket", "toBitmap", "()[B"⟩ : MethodName)) (z := (⟨"com/example/crowd_cache/crowdcache/core/Bucket", "toBitmap", "()[B"⟩ : MethodName)) hown (mvT hZ (hw _ (List.mem_of_getElem? (i := 16) rfl))) (mvT hZ (hw _ (List.mem_of_getElem? (i := 17) rfl))) (notFace_of_selects (args := #[]) (mvT hZ (hw _ (List.mem_of_getElem? (i := 19) rfl)))) (mvT hZ (hw _ (List.mem_of_getElem? (i := 19) rfl))) (mvT hZ (hw _ (List.mem_of_getElem? (i := 18) rfl))) (by decide) (backOf (W := 0) (rm31 l Z aw hw [] b15 b13 a3 h16 n0 Zs_16 E_b15 F_positions_b15 A_b13 hr_a3 (Int.le_refl _)) hZ (hw _ (List.mem_of_getElem? (i := 20) rfl)) (hw _ (List.mem_of_getElem? (i := 4) rfl)) (by decide) (by decide)) q17a q17c (g := (mkF m 317 #[.val (.int p0), .val (.int p1), .val (.int p2), .val (.int p3), .val (.int p4), .val (.long q5), .second, .val (.int x0), .val (.int nr), .val (.int y2), .val (.int z2), .val (.int km), .val (.int a3), .val (.int b3), .val (.int c2), sl169_l15, .val (.ref b8), .val (.int (1 : Int32)), .val (.ref b13), .val (.ref b15), .unset, .unset, .unset, .unset] [(.ref b15)])) rfl (by rw [hml]; rfl) (Steps.refl _) (argsL := []) (rest := []) (lenOf pd_3 rfl) rfl (by show 2 * 0 + _ ≤ _; exact Nat.le_of_eq rfl) (hb hby at_317) (fun _ _ => ⟨rfl, e16, (by decide : 3 + 1 ≤ _), (by decide : 6 + 8192 ≤ _)⟩)
                    dsimp only [Pt.U, Pt.locs, Pt.cells, Pt.slots] at X17 l17 y17 z17 st17 hQ17
                    subst l17 y17 z17
                    obtain ⟨h17, e17⟩ : ∃ z, T17.heap = z := ⟨_, rfl⟩
                    rw [e17] at hQ17
                    obtain ⟨bm, rfl, Nq17, K17, sz_bm', Y17_0⟩ := hQ17
                    have N17 := Fr.app N16 Nq17
                    have ne_b13_bm : b13 ≠ bm := Nat.ne_of_lt (Nat.lt_of_lt_of_le A_b13.lt sz_bm')
                    have ne_b15_bm : b15 ≠ bm := Nat.ne_of_lt (Nat.lt_of_lt_of_le E_b15.lt sz_bm')
                    have ne_b8_bm : b8 ≠ bm := Nat.ne_of_lt (Nat.lt_of_lt_of_le A_b8.lt sz_bm')
                    have g_bm : n0 ≤ bm := Nat.le_trans Zs_16 sz_bm'
                    replace A_b8 := A_b8.keep K17 nin0
                    replace A_b13 := A_b13.keep K17 nin0
                    replace E_b15 := E_b15.keep K17
                    replace F_index_b15 := F_index_b15.keep K17 nin0
                    replace F_positions_b15 := F_positions_b15.keep K17 nin0
                    have A_bm : AL Z h17 bm .byte (own_bl ((a3 / 8).toNatClampNeg + 1) [a3]) := Y17_0
                    have Zs_17 : n0 ≤ _ := Nat.le_trans Zs_16 K17.1
                    refine own_of st17 ?_
                    show OwnEnds p.tables e below _ (T17.setTop (mkF m 320 #[.val (.int p0), .val (.int p1), .val (.int p2), .val (.int p3), .val (.int p4), .val (.long q5), .second, .val (.int x0), .val (.int nr), .val (.int y2), .val (.int z2), .val (.int km), .val (.int a3), .val (.int b3), .val (.int c2), sl169_l15, .val (.ref b8), .val (.int (1 : Int32)), .val (.ref b13), .val (.ref b15), .unset, .unset, .unset, .unset] [(.ref bm)]))
                    refine own_via (fun t k => XS.astore X17.here hx rfl (hb hby at_320) rfl rfl (l' := #[.val (.int p0), .val (.int p1), .val (.int p2), .val (.int p3), .val (.int p4), .val (.long q5), .second, .val (.int x0), .val (.int nr), .val (.int y2), .val (.int z2), .val (.int km), .val (.int a3), .val (.int b3), .val (.int c2), sl169_l15, .val (.ref b8), .val (.int (1 : Int32)), .val (.ref b13), .val (.ref b15), .val (.ref bm), .unset, .unset, .unset]) rfl k) ?_
                    show OwnEnds p.tables e below _ (T17.setTop (mkF m 322 #[.val (.int p0), .val (.int p1), .val (.int p2), .val (.int p3), .val (.int p4), .val (.long q5), .second, .val (.int x0), .val (.int nr), .val (.int y2), .val (.int z2), .val (.int km), .val (.int a3), .val (.int b3), .val (.int c2), sl169_l15, .val (.ref b8), .val (.int (1 : Int32)), .val (.ref b13), .val (.ref b15), .val (.ref bm), .unset, .unset, .unset] []))
                    refine own_via (fun t k => XS.aload X17.here hx rfl (hb hby at_322) rfl rfl k) ?_
                    show OwnEnds p.tables e below _ (T17.setTop (mkF m 324 #[.val (.int p0), .val (.int p1), .val (.int p2), .val (.int p3), .val (.int p4), .val (.long q5), .second, .val (.int x0), .val (.int nr), .val (.int y2), .val (.int z2), .val (.int km), .val (.int a3), .val (.int b3), .val (.int c2), sl169_l15, .val (.ref b8), .val (.int (1 : Int32)), .val (.ref b13), .val (.ref b15), .val (.ref bm), .unset, .unset, .unset] [(.ref b8)]))
                    refine own_via (fun t k => XS.iload X17.here hx rfl (hb hby at_324) rfl k) ?_
                    show OwnEnds p.tables e below _ (T17.setTop (mkF m 326 #[.val (.int p0), .val (.int p1), .val (.int p2), .val (.int p3), .val (.int p4), .val (.long q5), .second, .val (.int x0), .val (.int nr), .val (.int y2), .val (.int z2), .val (.int km), .val (.int a3), .val (.int b3), .val (.int c2), sl169_l15, .val (.ref b8), .val (.int (1 : Int32)), .val (.ref b13), .val (.ref b15), .val (.ref bm), .unset, .unset, .unset] [(.int (1 : Int32)), (.ref b8)]))
                    refine own_via (fun t k => XS.iconst X17.here hx rfl (hb hby at_326) k) ?_
                    show OwnEnds p.tables e below _ (T17.setTop (mkF m 327 #[.val (.int p0), .val (.int p1), .val (.int p2), .val (.int p3), .val (.int p4), .val (.long q5), .second, .val (.int x0), .val (.int nr), .val (.int y2), .val (.int z2), .val (.int km), .val (.int a3), .val (.int b3), .val (.int c2), sl169_l15, .val (.ref b8), .val (.int (1 : Int32)), .val (.ref b13), .val (.ref b15), .val (.ref bm), .unset, .unset, .unset] [(.int (1 : Int32)), (.int (1 : Int32)), (.ref b8)]))
                    refine own_via (fun t k => XS.isub X17.here hx rfl (hb hby at_327) rfl k) ?_
                    show OwnEnds p.tables e below _ (T17.setTop (mkF m 328 #[.val (.int p0), .val (.int p1), .val (.int p2), .val (.int p3), .val (.int p4), .val (.long q5), .second, .val (.int x0), .val (.int nr), .val (.int y2), .val (.int z2), .val (.int km), .val (.int a3), .val (.int b3), .val (.int c2), sl169_l15, .val (.ref b8), .val (.int (1 : Int32)), .val (.ref b13), .val (.ref b15), .val (.ref bm), .unset, .unset, .unset] [(.int (0 : Int32)), (.ref b8)]))
                    refine own_via (own_ldI X17 hx hZ e17 A_b8 (v := (.int a3)) 0 rfl rfl (g := (mkF m 328 #[.val (.int p0), .val (.int p1), .val (.int p2), .val (.int p3), .val (.int p4), .val (.long q5), .second, .val (.int x0), .val (.int nr), .val (.int y2), .val (.int z2), .val (.int km), .val (.int a3), .val (.int b3), .val (.int c2), sl169_l15, .val (.ref b8), .val (.int (1 : Int32)), .val (.ref b13), .val (.ref b15), .val (.ref bm), .unset, .unset, .unset] [(.int (0 : Int32)), (.ref b8)])) rfl rfl (hb hby at_328)) ?_
                    show OwnEnds p.tables e below _ (T17.setTop (mkF m 329 #[.val (.int p0), .val (.int p1), .val (.int p2), .val (.int p3), .val (.int p4), .val (.long q5), .second, .val (.int x0), .val (.int nr), .val (.int y2), .val (.int z2), .val (.int km), .val (.int a3), .val (.int b3), .val (.int c2), sl169_l15, .val (.ref b8), .val (.int (1 : Int32)), .val (.ref b13), .val (.ref b15), .val (.ref bm), .unset, .unset, .unset] [(.int a3)]))
                    refine own_via (fun t k => XS.istore X17.here hx rfl (hb hby at_329) rfl (l' := #[.val (.int p0), .val (.int p1), .val (.int p2), .val (.int p3), .val (.int p4), .val (.long q5), .second, .val (.int x0), .val (.int nr), .val (.int y2), .val (.int z2), .val (.int km), .val (.int a3), .val (.int b3), .val (.int c2), sl169_l15, .val (.ref b8), .val (.int (1 : Int32)), .val (.ref b13), .val (.ref b15), .val (.ref bm), .val (.int a3), .unset, .unset]) rfl k) ?_
                    show OwnEnds p.tables e below _ (T17.setTop (mkF m 331 #[.val (.int p0), .val (.int p1), .val (.int p2), .val (.int p3), .val (.int p4), .val (.long q5), .second, .val (.int x0), .val (.int nr), .val (.int y2), .val (.int z2), .val (.int km), .val (.int a3), .val (.int b3), .val (.int c2), sl169_l15, .val (.ref b8), .val (.int (1 : Int32)), .val (.ref b13), .val (.ref b15), .val (.ref bm), .val (.int a3), .unset, .unset] []))
                    refine own_via (fun t k => XS.aload X17.here hx rfl (hb hby at_331) rfl rfl k) ?_
                    show OwnEnds p.tables e below _ (T17.setTop (mkF m 333 #[.val (.int p0), .val (.int p1), .val (.int p2), .val (.int p3), .val (.int p4), .val (.long q5), .second, .val (.int x0), .val (.int nr), .val (.int y2), .val (.int z2), .val (.int km), .val (.int a3), .val (.int b3), .val (.int c2), sl169_l15, .val (.ref b8), .val (.int (1 : Int32)), .val (.ref b13), .val (.ref b15), .val (.ref bm), .val (.int a3), .unset, .unset] [(.ref bm)]))
                    refine own_via (own_len X17 hx hZ e17 A_bm (z := ((a3 / (8 : Int32)) + (1 : Int32))) (by rw [own_bll]; exact (own_tl hr_a3).1) (g := (mkF m 333 #[.val (.int p0), .val (.int p1), .val (.int p2), .val (.int p3), .val (.int p4), .val (.long q5), .second, .val (.int x0), .val (.int nr), .val (.int y2), .val (.int z2), .val (.int km), .val (.int a3), .val (.int b3), .val (.int c2), sl169_l15, .val (.ref b8), .val (.int (1 : Int32)), .val (.ref b13), .val (.ref b15), .val (.ref bm), .val (.int a3), .unset, .unset] [(.ref bm)])) rfl rfl (hb hby at_333)) ?_
                    show OwnEnds p.tables e below _ (T17.setTop (mkF m 334 #[.val (.int p0), .val (.int p1), .val (.int p2), .val (.int p3), .val (.int p4), .val (.long q5), .second, .val (.int x0), .val (.int nr), .val (.int y2), .val (.int z2), .val (.int km), .val (.int a3), .val (.int b3), .val (.int c2), sl169_l15, .val (.ref b8), .val (.int (1 : Int32)), .val (.ref b13), .val (.ref b15), .val (.ref bm), .val (.int a3), .unset, .unset] [(.int ((a3 / (8 : Int32)) + (1 : Int32)))]))
                    refine own_via (fun t k => XS.iload X17.here hx rfl (hb hby at_334) rfl k) ?_
                    show OwnEnds p.tables e below _ (T17.setTop (mkF m 336 #[.val (.int p0), .val (.int p1), .val (.int p2), .val (.int p3), .val (.int p4), .val (.long q5), .second, .val (.int x0), .val (.int nr), .val (.int y2), .val (.int z2), .val (.int km), .val (.int a3), .val (.int b3), .val (.int c2), sl169_l15, .val (.ref b8), .val (.int (1 : Int32)), .val (.ref b13), .val (.ref b15), .val (.ref bm), .val (.int a3), .unset, .unset] [(.int a3), (.int ((a3 / (8 : Int32)) + (1 : Int32)))]))
                    refine own_via (fun t k => XS.bipush X17.here hx rfl (hb hby at_336) k) ?_
                    show OwnEnds p.tables e below _ (T17.setTop (mkF m 338 #[.val (.int p0), .val (.int p1), .val (.int p2), .val (.int p3), .val (.int p4), .val (.long q5), .second, .val (.int x0), .val (.int nr), .val (.int y2), .val (.int z2), .val (.int km), .val (.int a3), .val (.int b3), .val (.int c2), sl169_l15, .val (.ref b8), .val (.int (1 : Int32)), .val (.ref b13), .val (.ref b15), .val (.ref bm), .val (.int a3), .unset, .unset] [(.int (8 : Int32)), (.int a3), (.int ((a3 / (8 : Int32)) + (1 : Int32)))]))
                    refine own_via (fun t k => XS.idiv X17.here hx rfl (hb hby at_338) rfl (by decide) k) ?_
                    show OwnEnds p.tables e below _ (T17.setTop (mkF m 339 #[.val (.int p0), .val (.int p1), .val (.int p2), .val (.int p3), .val (.int p4), .val (.long q5), .second, .val (.int x0), .val (.int nr), .val (.int y2), .val (.int z2), .val (.int km), .val (.int a3), .val (.int b3), .val (.int c2), sl169_l15, .val (.ref b8), .val (.int (1 : Int32)), .val (.ref b13), .val (.ref b15), .val (.ref bm), .val (.int a3), .unset, .unset] [(.int (a3 / (8 : Int32))), (.int ((a3 / (8 : Int32)) + (1 : Int32)))]))
                    refine own_via (fun t k => XS.iconst X17.here hx rfl (hb hby at_339) k) ?_
                    show OwnEnds p.tables e below _ (T17.setTop (mkF m 340 #[.val (.int p0), .val (.int p1), .val (.int p2), .val (.int p3), .val (.int p4), .val (.long q5), .second, .val (.int x0), .val (.int nr), .val (.int y2), .val (.int z2), .val (.int km), .val (.int a3), .val (.int b3), .val (.int c2), sl169_l15, .val (.ref b8), .val (.int (1 : Int32)), .val (.ref b13), .val (.ref b15), .val (.ref bm), .val (.int a3), .unset, .unset] [(.int (1 : Int32)), (.int (a3 / (8 : Int32))), (.int ((a3 / (8 : Int32)) + (1 : Int32)))]))
                    refine own_via (fun t k => XS.iadd X17.here hx rfl (hb hby at_340) rfl k) ?_
                    show OwnEnds p.tables e below _ (T17.setTop (mkF m 341 #[.val (.int p0), .val (.int p1), .val (.int p2), .val (.int p3), .val (.int p4), .val (.long q5), .second, .val (.int x0), .val (.int nr), .val (.int y2), .val (.int z2), .val (.int km), .val (.int a3), .val (.int b3), .val (.int c2), sl169_l15, .val (.ref b8), .val (.int (1 : Int32)), .val (.ref b13), .val (.ref b15), .val (.ref bm), .val (.int a3), .unset, .unset] [(.int ((a3 / (8 : Int32)) + (1 : Int32))), (.int ((a3 / (8 : Int32)) + (1 : Int32)))]))
                    have hc341_18 : ((a3 / (8 : Int32)) + (1 : Int32)) = ((a3 / (8 : Int32)) + (1 : Int32)) := rfl
                    refine own_via (fun t k => XS.icmpYes X17.here hx rfl (pc0 := 341) (pc' := 346) rfl (hb hby at_341) rfl (teq hc341_18).1 (by decide) (by decide) k) ?_
                    show OwnEnds p.tables e below _ (T17.setTop (mkF m 346 #[.val (.int p0), .val (.int p1), .val (.int p2), .val (.int p3), .val (.int p4), .val (.long q5), .second, .val (.int x0), .val (.int nr), .val (.int y2), .val (.int z2), .val (.int km), .val (.int a3), .val (.int b3), .val (.int c2), sl169_l15, .val (.ref b8), .val (.int (1 : Int32)), .val (.ref b13), .val (.ref b15), .val (.ref bm), .val (.int a3), .unset, .unset] []))
                    refine own_via (fun t k => XS.aload X17.here hx rfl (hb hby at_346) rfl rfl k) ?_
                    show OwnEnds p.tables e below _ (T17.setTop (mkF m 348 #[.val (.int p0), .val (.int p1), .val (.int p2), .val (.int p3), .val (.int p4), .val (.long q5), .second, .val (.int x0), .val (.int nr), .val (.int y2), .val (.int z2), .val (.int km), .val (.int a3), .val (.int b3), .val (.int c2), sl169_l15, .val (.ref b8), .val (.int (1 : Int32)), .val (.ref b13), .val (.ref b15), .val (.ref bm), .val (.int a3), .unset, .unset] [(.ref bm)]))
                    refine own_via (fun t k => XS.aload X17.here hx rfl (hb hby at_348) rfl rfl k) ?_
                    show OwnEnds p.tables e below _ (T17.setTop (mkF m 350 #[.val (.int p0), .val (.int p1), .val (.int p2), .val (.int p3), .val (.int p4), .val (.long q5), .second, .val (.int x0), .val (.int nr), .val (.int y2), .val (.int z2), .val (.int km), .val (.int a3), .val (.int b3), .val (.int c2), sl169_l15, .val (.ref b8), .val (.int (1 : Int32)), .val (.ref b13), .val (.ref b15), .val (.ref bm), .val (.int a3), .unset, .unset] [(.ref b8), (.ref bm)]))
                    refine own_via (fun t k => XS.iload X17.here hx rfl (hb hby at_350) rfl k) ?_
                    show OwnEnds p.tables e below _ (T17.setTop (mkF m 352 #[.val (.int p0), .val (.int p1), .val (.int p2), .val (.int p3), .val (.int p4), .val (.long q5), .second, .val (.int x0), .val (.int nr), .val (.int y2), .val (.int z2), .val (.int km), .val (.int a3), .val (.int b3), .val (.int c2), sl169_l15, .val (.ref b8), .val (.int (1 : Int32)), .val (.ref b13), .val (.ref b15), .val (.ref bm), .val (.int a3), .unset, .unset] [(.int (1 : Int32)), (.ref b8), (.ref bm)]))
                    refine own_via (fun t k => XS.aload X17.here hx rfl (hb hby at_352) rfl rfl k) ?_
                    show OwnEnds p.tables e below _ (T17.setTop (mkF m 354 #[.val (.int p0), .val (.int p1), .val (.int p2), .val (.int p3), .val (.int p4), .val (.long q5), .second, .val (.int x0), .val (.int nr), .val (.int y2), .val (.int z2), .val (.int km), .val (.int a3), .val (.int b3), .val (.int c2), sl169_l15, .val (.ref b8), .val (.int (1 : Int32)), .val (.ref b13), .val (.ref b15), .val (.ref bm), .val (.int a3), .unset, .unset] [(.ref b8), (.int (1 : Int32)), (.ref b8), (.ref bm)]))
                    refine own_via (fun t k => XS.iconst X17.here hx rfl (hb hby at_354) k) ?_
                    show OwnEnds p.tables e below _ (T17.setTop (mkF m 355 #[.val (.int p0), .val (.int p1), .val (.int p2), .val (.int p3), .val (.int p4), .val (.long q5), .second, .val (.int x0), .val (.int nr), .val (.int y2), .val (.int z2), .val (.int km), .val (.int a3), .val (.int b3), .val (.int c2), sl169_l15, .val (.ref b8), .val (.int (1 : Int32)), .val (.ref b13), .val (.ref b15), .val (.ref bm), .val (.int a3), .unset, .unset] [(.int (0 : Int32)), (.ref b8), (.int (1 : Int32)), (.ref b8), (.ref bm)]))
                    refine own_via (own_ldI X17 hx hZ e17 A_b8 (v := (.int a3)) 0 rfl rfl (g := (mkF m 355 #[.val (.int p0), .val (.int p1), .val (.int p2), .val (.int p3), .val (.int p4), .val (.long q5), .second, .val (.int x0), .val (.int nr), .val (.int y2), .val (.int z2), .val (.int km), .val (.int a3), .val (.int b3), .val (.int c2), sl169_l15, .val (.ref b8), .val (.int (1 : Int32)), .val (.ref b13), .val (.ref b15), .val (.ref bm), .val (.int a3), .unset, .unset] [(.int (0 : Int32)), (.ref b8), (.int (1 : Int32)), (.ref b8), (.ref bm)])) rfl rfl (hb hby at_355)) ?_
                    show OwnEnds p.tables e below _ (T17.setTop (mkF m 356 #[.val (.int p0), .val (.int p1), .val (.int p2), .val (.int p3), .val (.int p4), .val (.long q5), .second, .val (.int x0), .val (.int nr), .val (.int y2), .val (.int z2), .val (.int km), .val (.int a3), .val (.int b3), .val (.int c2), sl169_l15, .val (.ref b8), .val (.int (1 : Int32)), .val (.ref b13), .val (.ref b15), .val (.ref bm), .val (.int a3), .unset, .unset] [(.int a3), (.int (1 : Int32)), (.ref b8), (.ref bm)]))
                    refine own_via (fun t k => XS.bipush X17.here hx rfl (hb hby at_356) k) ?_
                    show OwnEnds p.tables e below _ (T17.setTop (mkF m 358 #[.val (.int p0), .val (.int p1), .val (.int p2), .val (.int p3), .val (.int p4), .val (.long q5), .second, .val (.int x0), .val (.int nr), .val (.int y2), .val (.int z2), .val (.int km), .val (.int a3), .val (.int b3), .val (.int c2), sl169_l15, .val (.ref b8), .val (.int (1 : Int32)), .val (.ref b13), .val (.ref b15), .val (.ref bm), .val (.int a3), .unset, .unset] [(.int (8 : Int32)), (.int a3), (.int (1 : Int32)), (.ref b8), (.ref bm)]))
                    refine own_via (fun t k => XS.idiv X17.here hx rfl (hb hby at_358) rfl (by decide) k) ?_
                    show OwnEnds p.tables e below _ (T17.setTop (mkF m 359 #[.val (.int p0), .val (.int p1), .val (.int p2), .val (.int p3), .val (.int p4), .val (.long q5), .second, .val (.int x0), .val (.int nr), .val (.int y2), .val (.int z2), .val (.int km), .val (.int a3), .val (.int b3), .val (.int c2), sl169_l15, .val (.ref b8), .val (.int (1 : Int32)), .val (.ref b13), .val (.ref b15), .val (.ref bm), .val (.int a3), .unset, .unset] [(.int (a3 / (8 : Int32))), (.int (1 : Int32)), (.ref b8), (.ref bm)]))
                    obtain ⟨_, _, ⟨T19, L19, k19, n19⟩, -, X19, ⟨Lc19, hQ19, l19, y19, z19⟩, st19⟩ := Jvm.LawKit.callS X17 hx (y := (⟨"com/example/crowd_cache/crowdcache/core/BucketToBitmapPinLaw", "checkAt", "([B[III)Z"⟩ : MethodName)) hown (mvT hZ (hw _ (List.mem_of_getElem? (i := 22) rfl))) (mvT hZ (hw _ (List.mem_of_getElem? (i := 23) rfl))) (mvT hZ (hw _ (List.mem_of_getElem? (i := 24) rfl))) (mvT hZ (hw _ (List.mem_of_getElem? (i := 25) rfl))) (by decide) (backOf (W := 0) (rm41 l Z aw hw [] bm b8 (a3 / (8 : Int32)) a3 (0 : Int32) (0 : Int32) ((a3 / 8).toNatClampNeg + 1) ((a3 / (8 : Int32))).toNatClampNeg h17 n0 Zs_17 A_bm A_b8 (own_jd hr_a3 hr_a3 (Int.le_refl _)).1 (own_jd hr_a3 hr_a3 (Int.le_refl _)).2 hr_a3) hZ (hw _ (List.mem_of_getElem? (i := 25) rfl)) (hw _ (List.mem_of_getElem? (i := 24) rfl)) (by decide) (by decide)) (g := (mkF m 359 #[.val (.int p0), .val (.int p1), .val (.int p2), .val (.int p3), .val (.int p4), .val (.long q5), .second, .val (.int x0), .val (.int nr), .val (.int y2), .val (.int z2), .val (.int km), .val (.int a3), .val (.int b3), .val (.int c2), sl169_l15, .val (.ref b8), .val (.int (1 : Int32)), .val (.ref b13), .val (.ref b15), .val (.ref bm), .val (.int a3), .unset, .unset] [(.int (a3 / (8 : Int32))), (.int (1 : Int32)), (.ref b8), (.ref bm)])) rfl (by rw [hml]; rfl) (argsL := [(.ref bm), (.ref b8), (.int (1 : Int32)), (.int (a3 / (8 : Int32)))]) (rest := []) (lenOf pd_4 rfl) rfl (by show 2 * 0 + _ ≤ _; exact Nat.le_of_eq rfl) (hb hby at_359) (fun _ _ => ⟨rfl, e17, (by decide : 4 + 0 ≤ _), (by decide : 8198 + 0 ≤ _)⟩)
                    dsimp only [Pt.U, Pt.locs, Pt.cells, Pt.slots] at X19 l19 y19 z19 st19 hQ19
                    subst l19 y19 z19
                    obtain ⟨rfl, Nq19, e19⟩ := hQ19
                    have N19 := Fr.app N17 Nq19
                    replace e19 : T19.heap = h17 := e19
                    refine own_via st19 ?_
                    show OwnEnds p.tables e below _ (T19.setTop (mkF m 362 #[.val (.int p0), .val (.int p1), .val (.int p2), .val (.int p3), .val (.int p4), .val (.long q5), .second, .val (.int x0), .val (.int nr), .val (.int y2), .val (.int z2), .val (.int km), .val (.int a3), .val (.int b3), .val (.int c2), sl169_l15, .val (.ref b8), .val (.int (1 : Int32)), .val (.ref b13), .val (.ref b15), .val (.ref bm), .val (.int a3), .unset, .unset] [(.int (1 : Int32))]))
                    refine own_via (fun t k => XS.istore X19.here hx rfl (hb hby at_362) rfl (l' := #[.val (.int p0), .val (.int p1), .val (.int p2), .val (.int p3), .val (.int p4), .val (.long q5), .second, .val (.int x0), .val (.int nr), .val (.int y2), .val (.int z2), .val (.int km), .val (.int a3), .val (.int b3), .val (.int c2), sl169_l15, .val (.ref b8), .val (.int (1 : Int32)), .val (.ref b13), .val (.ref b15), .val (.ref bm), .val (.int a3), .val (.int (1 : Int32)), .unset]) rfl k) ?_
                    show OwnEnds p.tables e below _ (T19.setTop (mkF m 364 #[.val (.int p0), .val (.int p1), .val (.int p2), .val (.int p3), .val (.int p4), .val (.long q5), .second, .val (.int x0), .val (.int nr), .val (.int y2), .val (.int z2), .val (.int km), .val (.int a3), .val (.int b3), .val (.int c2), sl169_l15, .val (.ref b8), .val (.int (1 : Int32)), .val (.ref b13), .val (.ref b15), .val (.ref bm), .val (.int a3), .val (.int (1 : Int32)), .unset] []))
                    refine own_via (fun t k => XS.iload X19.here hx rfl (hb hby at_364) rfl k) ?_
                    show OwnEnds p.tables e below _ (T19.setTop (mkF m 366 #[.val (.int p0), .val (.int p1), .val (.int p2), .val (.int p3), .val (.int p4), .val (.long q5), .second, .val (.int x0), .val (.int nr), .val (.int y2), .val (.int z2), .val (.int km), .val (.int a3), .val (.int b3), .val (.int c2), sl169_l15, .val (.ref b8), .val (.int (1 : Int32)), .val (.ref b13), .val (.ref b15), .val (.ref bm), .val (.int a3), .val (.int (1 : Int32)), .unset] [(.int (1 : Int32))]))
                    refine own_via (fun t k => XS.iconst X19.here hx rfl (hb hby at_366) k) ?_
                    show OwnEnds p.tables e below _ (T19.setTop (mkF m 367 #[.val (.int p0), .val (.int p1), .val (.int p2), .val (.int p3), .val (.int p4), .val (.long q5), .second, .val (.int x0), .val (.int nr), .val (.int y2), .val (.int z2), .val (.int km), .val (.int a3), .val (.int b3), .val (.int c2), sl169_l15, .val (.ref b8), .val (.int (1 : Int32)), .val (.ref b13), .val (.ref b15), .val (.ref bm), .val (.int a3), .val (.int (1 : Int32)), .unset] [(.int (2 : Int32)), (.int (1 : Int32))]))
                    have hc367_20 : (1 : Int32) < (2 : Int32) := by decide
                    refine own_via (fun t k => XS.icmpYes X19.here hx rfl (pc0 := 367) (pc' := 401) rfl (hb hby at_367) rfl (tlt hc367_20).1 (by decide) (by decide) k) ?_
                    show OwnEnds p.tables e below _ (T19.setTop (mkF m 401 #[.val (.int p0), .val (.int p1), .val (.int p2), .val (.int p3), .val (.int p4), .val (.long q5), .second, .val (.int x0), .val (.int nr), .val (.int y2), .val (.int z2), .val (.int km), .val (.int a3), .val (.int b3), .val (.int c2), sl169_l15, .val (.ref b8), .val (.int (1 : Int32)), .val (.ref b13), .val (.ref b15), .val (.ref bm), .val (.int a3), .val (.int (1 : Int32)), .unset] []))
                    refine own_via (fun t k => XS.iload X19.here hx rfl (hb hby at_401) rfl k) ?_
                    show OwnEnds p.tables e below _ (T19.setTop (mkF m 403 #[.val (.int p0), .val (.int p1), .val (.int p2), .val (.int p3), .val (.int p4), .val (.long q5), .second, .val (.int x0), .val (.int nr), .val (.int y2), .val (.int z2), .val (.int km), .val (.int a3), .val (.int b3), .val (.int c2), sl169_l15, .val (.ref b8), .val (.int (1 : Int32)), .val (.ref b13), .val (.ref b15), .val (.ref bm), .val (.int a3), .val (.int (1 : Int32)), .unset] [(.int (1 : Int32))]))
                    refine own_via (fun t k => XS.iconst X19.here hx rfl (hb hby at_403) k) ?_
                    show OwnEnds p.tables e below _ (T19.setTop (mkF m 404 #[.val (.int p0), .val (.int p1), .val (.int p2), .val (.int p3), .val (.int p4), .val (.long q5), .second, .val (.int x0), .val (.int nr), .val (.int y2), .val (.int z2), .val (.int km), .val (.int a3), .val (.int b3), .val (.int c2), sl169_l15, .val (.ref b8), .val (.int (1 : Int32)), .val (.ref b13), .val (.ref b15), .val (.ref bm), .val (.int a3), .val (.int (1 : Int32)), .unset] [(.int (3 : Int32)), (.int (1 : Int32))]))
                    have hc404_21 : (1 : Int32) < (3 : Int32) := by decide
                    refine own_via (fun t k => XS.icmpYes X19.here hx rfl (pc0 := 404) (pc' := 438) rfl (hb hby at_404) rfl (tlt hc404_21).1 (by decide) (by decide) k) ?_
                    show OwnEnds p.tables e below _ (T19.setTop (mkF m 438 #[.val (.int p0), .val (.int p1), .val (.int p2), .val (.int p3), .val (.int p4), .val (.long q5), .second, .val (.int x0), .val (.int nr), .val (.int y2), .val (.int z2), .val (.int km), .val (.int a3), .val (.int b3), .val (.int c2), sl169_l15, .val (.ref b8), .val (.int (1 : Int32)), .val (.ref b13), .val (.ref b15), .val (.ref bm), .val (.int a3), .val (.int (1 : Int32)), .unset] []))
                    refine own_via (fun t k => XS.iload X19.here hx rfl (hb hby at_438) rfl k) ?_
                    show OwnEnds p.tables e below _ (T19.setTop (mkF m 440 #[.val (.int p0), .val (.int p1), .val (.int p2), .val (.int p3), .val (.int p4), .val (.long q5), .second, .val (.int x0), .val (.int nr), .val (.int y2), .val (.int z2), .val (.int km), .val (.int a3), .val (.int b3), .val (.int c2), sl169_l15, .val (.ref b8), .val (.int (1 : Int32)), .val (.ref b13), .val (.ref b15), .val (.ref bm), .val (.int a3), .val (.int (1 : Int32)), .unset] [(.int p4)]))
                    refine own_via (X19.ldcInt hx hown (mvT hZ (hw _ (List.mem_of_getElem? (i := 32) rfl))) (g := (mkF m 440 #[.val (.int p0), .val (.int p1), .val (.int p2), .val (.int p3), .val (.int p4), .val (.long q5), .second, .val (.int x0), .val (.int nr), .val (.int y2), .val (.int z2), .val (.int km), .val (.int a3), .val (.int b3), .val (.int c2), sl169_l15, .val (.ref b8), .val (.int (1 : Int32)), .val (.ref b13), .val (.ref b15), .val (.ref bm), .val (.int a3), .val (.int (1 : Int32)), .unset] [(.int p4)])) rfl (hb hby at_440)) ?_
                    show OwnEnds p.tables e below _ (T19.setTop (mkF m 442 #[.val (.int p0), .val (.int p1), .val (.int p2), .val (.int p3), .val (.int p4), .val (.long q5), .second, .val (.int x0), .val (.int nr), .val (.int y2), .val (.int z2), .val (.int km), .val (.int a3), .val (.int b3), .val (.int c2), sl169_l15, .val (.ref b8), .val (.int (1 : Int32)), .val (.ref b13), .val (.ref b15), .val (.ref bm), .val (.int a3), .val (.int (1 : Int32)), .unset] [(.int (2147483647 : Int32)), (.int p4)]))
                    refine own_via (fun t k => XS.iand X19.here hx rfl (hb hby at_442) rfl k) ?_
                    show OwnEnds p.tables e below _ (T19.setTop (mkF m 443 #[.val (.int p0), .val (.int p1), .val (.int p2), .val (.int p3), .val (.int p4), .val (.long q5), .second, .val (.int x0), .val (.int nr), .val (.int y2), .val (.int z2), .val (.int km), .val (.int a3), .val (.int b3), .val (.int c2), sl169_l15, .val (.ref b8), .val (.int (1 : Int32)), .val (.ref b13), .val (.ref b15), .val (.ref bm), .val (.int a3), .val (.int (1 : Int32)), .unset] [(.int (p4 &&& (2147483647 : Int32)))]))
                    refine own_via (fun t k => XS.aload X19.here hx rfl (hb hby at_443) rfl rfl k) ?_
                    show OwnEnds p.tables e below _ (T19.setTop (mkF m 445 #[.val (.int p0), .val (.int p1), .val (.int p2), .val (.int p3), .val (.int p4), .val (.long q5), .second, .val (.int x0), .val (.int nr), .val (.int y2), .val (.int z2), .val (.int km), .val (.int a3), .val (.int b3), .val (.int c2), sl169_l15, .val (.ref b8), .val (.int (1 : Int32)), .val (.ref b13), .val (.ref b15), .val (.ref bm), .val (.int a3), .val (.int (1 : Int32)), .unset] [(.ref bm), (.int (p4 &&& (2147483647 : Int32)))]))
                    refine own_via (own_len X19 hx hZ e19 A_bm (z := ((a3 / (8 : Int32)) + (1 : Int32))) (by rw [own_bll]; exact (own_tl hr_a3).1) (g := (mkF m 445 #[.val (.int p0), .val (.int p1), .val (.int p2), .val (.int p3), .val (.int p4), .val (.long q5), .second, .val (.int x0), .val (.int nr), .val (.int y2), .val (.int z2), .val (.int km), .val (.int a3), .val (.int b3), .val (.int c2), sl169_l15, .val (.ref b8), .val (.int (1 : Int32)), .val (.ref b13), .val (.ref b15), .val (.ref bm), .val (.int a3), .val (.int (1 : Int32)), .unset] [(.ref bm), (.int (p4 &&& (2147483647 : Int32)))])) rfl rfl (hb hby at_445)) ?_
                    show OwnEnds p.tables e below _ (T19.setTop (mkF m 446 #[.val (.int p0), .val (.int p1), .val (.int p2), .val (.int p3), .val (.int p4), .val (.long q5), .second, .val (.int x0), .val (.int nr), .val (.int y2), .val (.int z2), .val (.int km), .val (.int a3), .val (.int b3), .val (.int c2), sl169_l15, .val (.ref b8), .val (.int (1 : Int32)), .val (.ref b13), .val (.ref b15), .val (.ref bm), .val (.int a3), .val (.int (1 : Int32)), .unset] [(.int ((a3 / (8 : Int32)) + (1 : Int32))), (.int (p4 &&& (2147483647 : Int32)))]))
                    refine own_via (fun t k => Jvm.RoadKit.iremM X19 hx rfl (hb hby at_446) rfl (own_nz hr_a3) k) ?_
                    show OwnEnds p.tables e below _ (T19.setTop (mkF m 447 #[.val (.int p0), .val (.int p1), .val (.int p2), .val (.int p3), .val (.int p4), .val (.long q5), .second, .val (.int x0), .val (.int nr), .val (.int y2), .val (.int z2), .val (.int km), .val (.int a3), .val (.int b3), .val (.int c2), sl169_l15, .val (.ref b8), .val (.int (1 : Int32)), .val (.ref b13), .val (.ref b15), .val (.ref bm), .val (.int a3), .val (.int (1 : Int32)), .unset] [(.int ((p4 &&& (2147483647 : Int32)) % ((a3 / (8 : Int32)) + (1 : Int32))))]))
                    obtain ⟨jj, h_jj⟩ : ∃ z, z = ((p4 &&& (2147483647 : Int32)) % ((a3 / (8 : Int32)) + (1 : Int32))) := ⟨_, rfl⟩
                    rw [← h_jj]
                    refine own_via (fun t k => XS.istore X19.here hx rfl (hb hby at_447) rfl (l' := #[.val (.int p0), .val (.int p1), .val (.int p2), .val (.int p3), .val (.int p4), .val (.long q5), .second, .val (.int x0), .val (.int nr), .val (.int y2), .val (.int z2), .val (.int km), .val (.int a3), .val (.int b3), .val (.int c2), sl169_l15, .val (.ref b8), .val (.int (1 : Int32)), .val (.ref b13), .val (.ref b15), .val (.ref bm), .val (.int a3), .val (.int (1 : Int32)), .val (.int jj)]) rfl k) ?_
                    show OwnEnds p.tables e below _ (T19.setTop (mkF m 449 #[.val (.int p0), .val (.int p1), .val (.int p2), .val (.int p3), .val (.int p4), .val (.long q5), .second, .val (.int x0), .val (.int nr), .val (.int y2), .val (.int z2), .val (.int km), .val (.int a3), .val (.int b3), .val (.int c2), sl169_l15, .val (.ref b8), .val (.int (1 : Int32)), .val (.ref b13), .val (.ref b15), .val (.ref bm), .val (.int a3), .val (.int (1 : Int32)), .val (.int jj)] []))
                    refine own_via (fun t k => XS.iload X19.here hx rfl (hb hby at_449) rfl k) ?_
                    show OwnEnds p.tables e below _ (T19.setTop (mkF m 451 #[.val (.int p0), .val (.int p1), .val (.int p2), .val (.int p3), .val (.int p4), .val (.long q5), .second, .val (.int x0), .val (.int nr), .val (.int y2), .val (.int z2), .val (.int km), .val (.int a3), .val (.int b3), .val (.int c2), sl169_l15, .val (.ref b8), .val (.int (1 : Int32)), .val (.ref b13), .val (.ref b15), .val (.ref bm), .val (.int a3), .val (.int (1 : Int32)), .val (.int jj)] [(.int (1 : Int32))]))
                    have hc451_22 : ¬ ((1 : Int32) = (0 : Int32)) := by decide
                    refine own_via (fun t k => XS.ifNo X19.here hx rfl (hb hby at_451) rfl ((if0 _ _).trans (feq hc451_22).1) k) ?_
                    show OwnEnds p.tables e below _ (T19.setTop (mkF m 454 #[.val (.int p0), .val (.int p1), .val (.int p2), .val (.int p3), .val (.int p4), .val (.long q5), .second, .val (.int x0), .val (.int nr), .val (.int y2), .val (.int z2), .val (.int km), .val (.int a3), .val (.int b3), .val (.int c2), sl169_l15, .val (.ref b8), .val (.int (1 : Int32)), .val (.ref b13), .val (.ref b15), .val (.ref bm), .val (.int a3), .val (.int (1 : Int32)), .val (.int jj)] []))
                    refine own_via (fun t k => XS.aload X19.here hx rfl (hb hby at_454) rfl rfl k) ?_
                    show OwnEnds p.tables e below _ (T19.setTop (mkF m 456 #[.val (.int p0), .val (.int p1), .val (.int p2), .val (.int p3), .val (.int p4), .val (.long q5), .second, .val (.int x0), .val (.int nr), .val (.int y2), .val (.int z2), .val (.int km), .val (.int a3), .val (.int b3), .val (.int c2), sl169_l15, .val (.ref b8), .val (.int (1 : Int32)), .val (.ref b13), .val (.ref b15), .val (.ref bm), .val (.int a3), .val (.int (1 : Int32)), .val (.int jj)] [(.ref bm)]))
                    refine own_via (fun t k => XS.aload X19.here hx rfl (hb hby at_456) rfl rfl k) ?_
                    show OwnEnds p.tables e below _ (T19.setTop (mkF m 458 #[.val (.int p0), .val (.int p1), .val (.int p2), .val (.int p3), .val (.int p4), .val (.long q5), .second, .val (.int x0), .val (.int nr), .val (.int y2), .val (.int z2), .val (.int km), .val (.int a3), .val (.int b3), .val (.int c2), sl169_l15, .val (.ref b8), .val (.int (1 : Int32)), .val (.ref b13), .val (.ref b15), .val (.ref bm), .val (.int a3), .val (.int (1 : Int32)), .val (.int jj)] [(.ref b8), (.ref bm)]))
                    refine own_via (fun t k => XS.iload X19.here hx rfl (hb hby at_458) rfl k) ?_
                    show OwnEnds p.tables e below _ (T19.setTop (mkF m 460 #[.val (.int p0), .val (.int p1), .val (.int p2), .val (.int p3), .val (.int p4), .val (.long q5), .second, .val (.int x0), .val (.int nr), .val (.int y2), .val (.int z2), .val (.int km), .val (.int a3), .val (.int b3), .val (.int c2), sl169_l15, .val (.ref b8), .val (.int (1 : Int32)), .val (.ref b13), .val (.ref b15), .val (.ref bm), .val (.int a3), .val (.int (1 : Int32)), .val (.int jj)] [(.int (1 : Int32)), (.ref b8), (.ref bm)]))
                    refine own_via (fun t k => XS.iload X19.here hx rfl (hb hby at_460) rfl k) ?_
                    show OwnEnds p.tables e below _ (T19.setTop (mkF m 462 #[.val (.int p0), .val (.int p1), .val (.int p2), .val (.int p3), .val (.int p4), .val (.long q5), .second, .val (.int x0), .val (.int nr), .val (.int y2), .val (.int z2), .val (.int km), .val (.int a3), .val (.int b3), .val (.int c2), sl169_l15, .val (.ref b8), .val (.int (1 : Int32)), .val (.ref b13), .val (.ref b15), .val (.ref bm), .val (.int a3), .val (.int (1 : Int32)), .val (.int jj)] [(.int jj), (.int (1 : Int32)), (.ref b8), (.ref bm)]))
                    obtain ⟨_, _, ⟨T23, L23, k23, n23⟩, -, X23, ⟨Lc23, hQ23, l23, y23, z23⟩, st23⟩ := Jvm.LawKit.callS X19 hx (y := (⟨"com/example/crowd_cache/crowdcache/core/BucketToBitmapPinLaw", "checkAt", "([B[III)Z"⟩ : MethodName)) hown (mvT hZ (hw _ (List.mem_of_getElem? (i := 22) rfl))) (mvT hZ (hw _ (List.mem_of_getElem? (i := 23) rfl))) (mvT hZ (hw _ (List.mem_of_getElem? (i := 24) rfl))) (mvT hZ (hw _ (List.mem_of_getElem? (i := 25) rfl))) (by decide) (backOf (W := 0) (rm41 l Z aw hw [] bm b8 jj a3 (0 : Int32) (0 : Int32) ((a3 / 8).toNatClampNeg + 1) (jj).toNatClampNeg h17 n0 Zs_17 A_bm A_b8 (own_jj hr_a3 h_jj).1 (own_jj hr_a3 h_jj).2 hr_a3) hZ (hw _ (List.mem_of_getElem? (i := 25) rfl)) (hw _ (List.mem_of_getElem? (i := 24) rfl)) (by decide) (by decide)) (g := (mkF m 462 #[.val (.int p0), .val (.int p1), .val (.int p2), .val (.int p3), .val (.int p4), .val (.long q5), .second, .val (.int x0), .val (.int nr), .val (.int y2), .val (.int z2), .val (.int km), .val (.int a3), .val (.int b3), .val (.int c2), sl169_l15, .val (.ref b8), .val (.int (1 : Int32)), .val (.ref b13), .val (.ref b15), .val (.ref bm), .val (.int a3), .val (.int (1 : Int32)), .val (.int jj)] [(.int jj), (.int (1 : Int32)), (.ref b8), (.ref bm)])) rfl (by rw [hml]; rfl) (argsL := [(.ref bm), (.ref b8), (.int (1 : Int32)), (.int jj)]) (rest := []) (lenOf pd_4 rfl) rfl (by show 2 * 0 + _ ≤ _; exact Nat.le_of_eq rfl) (hb hby at_462) (fun _ _ => ⟨rfl, e19, (by decide : 4 + 0 ≤ _), (by decide : 8198 + 0 ≤ _)⟩)
                    dsimp only [Pt.U, Pt.locs, Pt.cells, Pt.slots] at X23 l23 y23 z23 st23 hQ23
                    subst l23 y23 z23
                    obtain ⟨rfl, Nq23, e23⟩ := hQ23
                    have N23 := Fr.app N19 Nq23
                    replace e23 : T23.heap = h17 := e23
                    refine own_via st23 ?_
                    show OwnEnds p.tables e below _ (T23.setTop (mkF m 465 #[.val (.int p0), .val (.int p1), .val (.int p2), .val (.int p3), .val (.int p4), .val (.long q5), .second, .val (.int x0), .val (.int nr), .val (.int y2), .val (.int z2), .val (.int km), .val (.int a3), .val (.int b3), .val (.int c2), sl169_l15, .val (.ref b8), .val (.int (1 : Int32)), .val (.ref b13), .val (.ref b15), .val (.ref bm), .val (.int a3), .val (.int (1 : Int32)), .val (.int jj)] [(.int (1 : Int32))]))
                    have hc465_24 : ¬ ((1 : Int32) = (0 : Int32)) := by decide
                    refine own_via (fun t k => XS.ifNo X23.here hx rfl (hb hby at_465) rfl ((if0 _ _).trans (feq hc465_24).1) k) ?_
                    show OwnEnds p.tables e below _ (T23.setTop (mkF m 468 #[.val (.int p0), .val (.int p1), .val (.int p2), .val (.int p3), .val (.int p4), .val (.long q5), .second, .val (.int x0), .val (.int nr), .val (.int y2), .val (.int z2), .val (.int km), .val (.int a3), .val (.int b3), .val (.int c2), sl169_l15, .val (.ref b8), .val (.int (1 : Int32)), .val (.ref b13), .val (.ref b15), .val (.ref bm), .val (.int a3), .val (.int (1 : Int32)), .val (.int jj)] []))
                    refine own_via (fun t k => XS.iconst X23.here hx rfl (hb hby at_468) k) ?_
                    show OwnEnds p.tables e below _ (T23.setTop (mkF m 469 #[.val (.int p0), .val (.int p1), .val (.int p2), .val (.int p3), .val (.int p4), .val (.long q5), .second, .val (.int x0), .val (.int nr), .val (.int y2), .val (.int z2), .val (.int km), .val (.int a3), .val (.int b3), .val (.int c2), sl169_l15, .val (.ref b8), .val (.int (1 : Int32)), .val (.ref b13), .val (.ref b15), .val (.ref bm), .val (.int a3), .val (.int (1 : Int32)), .val (.int jj)] [(.int (1 : Int32))]))
                    refine own_via (fun t k => XS.goto X23.here hx rfl (pc0 := 469) (pc' := 473) rfl (hb hby at_469) (by decide) (by decide) k) ?_
                    show OwnEnds p.tables e below _ (T23.setTop (mkF m 473 #[.val (.int p0), .val (.int p1), .val (.int p2), .val (.int p3), .val (.int p4), .val (.long q5), .second, .val (.int x0), .val (.int nr), .val (.int y2), .val (.int z2), .val (.int km), .val (.int a3), .val (.int b3), .val (.int c2), sl169_l15, .val (.ref b8), .val (.int (1 : Int32)), .val (.ref b13), .val (.ref b15), .val (.ref bm), .val (.int a3), .val (.int (1 : Int32)), .val (.int jj)] [(.int (1 : Int32))]))
                    refine own_via (fun t k => XS.istore X23.here hx rfl (hb hby at_473) rfl (l' := #[.val (.int p0), .val (.int p1), .val (.int p2), .val (.int p3), .val (.int p4), .val (.long q5), .second, .val (.int x0), .val (.int nr), .val (.int y2), .val (.int z2), .val (.int km), .val (.int a3), .val (.int b3), .val (.int c2), sl169_l15, .val (.ref b8), .val (.int (1 : Int32)), .val (.ref b13), .val (.ref b15), .val (.ref bm), .val (.int a3), .val (.int (1 : Int32)), .val (.int jj)]) rfl k) ?_
                    show OwnEnds p.tables e below _ (T23.setTop (mkF m 475 #[.val (.int p0), .val (.int p1), .val (.int p2), .val (.int p3), .val (.int p4), .val (.long q5), .second, .val (.int x0), .val (.int nr), .val (.int y2), .val (.int z2), .val (.int km), .val (.int a3), .val (.int b3), .val (.int c2), sl169_l15, .val (.ref b8), .val (.int (1 : Int32)), .val (.ref b13), .val (.ref b15), .val (.ref bm), .val (.int a3), .val (.int (1 : Int32)), .val (.int jj)] []))
                    refine own_via (fun t k => XS.iload X23.here hx rfl (hb hby at_475) rfl k) ?_
                    show OwnEnds p.tables e below _ (T23.setTop (mkF m 477 #[.val (.int p0), .val (.int p1), .val (.int p2), .val (.int p3), .val (.int p4), .val (.long q5), .second, .val (.int x0), .val (.int nr), .val (.int y2), .val (.int z2), .val (.int km), .val (.int a3), .val (.int b3), .val (.int c2), sl169_l15, .val (.ref b8), .val (.int (1 : Int32)), .val (.ref b13), .val (.ref b15), .val (.ref bm), .val (.int a3), .val (.int (1 : Int32)), .val (.int jj)] [(.int (1 : Int32))]))
                    refine own_retN (t := .boolean) X23 hx Bd.returns (by simp) hlk (hb hby at_477) ?_ (by decide) (by decide)
                    rw [e23]
                    exact ⟨rfl, N23⟩
                  · skip
                    refine own_via (fun t k => XS.icmpNo X9.here hx rfl (hb hby at_207) rfl (feq hc207_11).1 k) ?_
                    show OwnEnds p.tables e below _ (T9.setTop (mkF m 210 #[.val (.int p0), .val (.int p1), .val (.int p2), .val (.int p3), .val (.int p4), .val (.long q5), .second, .val (.int x0), .val (.int nr), .val (.int y2), .val (.int z2), .val (.int km), .val (.int a3), .val (.int b3), .val (.int c2), sl169_l15, .val (.ref b8), .val (.int (1 : Int32)), .unset, .unset, .unset, .unset, .unset, .unset] []))
                    refine own_via (fun t k => XS.aload X9.here hx rfl (hb hby at_210) rfl rfl k) ?_
                    show OwnEnds p.tables e below _ (T9.setTop (mkF m 212 #[.val (.int p0), .val (.int p1), .val (.int p2), .val (.int p3), .val (.int p4), .val (.long q5), .second, .val (.int x0), .val (.int nr), .val (.int y2), .val (.int z2), .val (.int km), .val (.int a3), .val (.int b3), .val (.int c2), sl169_l15, .val (.ref b8), .val (.int (1 : Int32)), .unset, .unset, .unset, .unset, .unset, .unset] [(.ref b8)]))
                    refine own_via (fun t k => XS.iload X9.here hx rfl (hb hby at_212) rfl k) ?_
                    show OwnEnds p.tables e below _ (T9.setTop (mkF m 214 #[.val (.int p0), .val (.int p1), .val (.int p2), .val (.int p3), .val (.int p4), .val (.long q5), .second, .val (.int x0), .val (.int nr), .val (.int y2), .val (.int z2), .val (.int km), .val (.int a3), .val (.int b3), .val (.int c2), sl169_l15, .val (.ref b8), .val (.int (1 : Int32)), .unset, .unset, .unset, .unset, .unset, .unset] [(.int (1 : Int32)), (.ref b8)]))
                    refine own_via (fun t k => XS.iload X9.here hx rfl (hb hby at_214) rfl k) ?_
                    show OwnEnds p.tables e below _ (T9.setTop (mkF m 216 #[.val (.int p0), .val (.int p1), .val (.int p2), .val (.int p3), .val (.int p4), .val (.long q5), .second, .val (.int x0), .val (.int nr), .val (.int y2), .val (.int z2), .val (.int km), .val (.int a3), .val (.int b3), .val (.int c2), sl169_l15, .val (.ref b8), .val (.int (1 : Int32)), .unset, .unset, .unset, .unset, .unset, .unset] [(.int c2), (.int (1 : Int32)), (.ref b8)]))
                    obtain ⟨T25, h25, X25, e25, W25, AA25, st25⟩ := own_stI X9 hx hZ e9 A_b8 1 rfl (Nat.le_of_ble_eq_true rfl) (g := (mkF m 216 #[.val (.int p0), .val (.int p1), .val (.int p2), .val (.int p3), .val (.int p4), .val (.long q5), .second, .val (.int x0), .val (.int nr), .val (.int y2), .val (.int z2), .val (.int km), .val (.int a3), .val (.int b3), .val (.int c2), sl169_l15, .val (.ref b8), .val (.int (1 : Int32)), .unset, .unset, .unset, .unset, .unset, .unset] [(.int c2), (.int (1 : Int32)), (.ref b8)])) rfl rfl (hb hby at_216)
                    have Zs_W25 : n0 ≤ _ := Nat.le_trans Zs_W9 (Keep.of_wr W25).1
                    replace A_b8 : AL Z h25 b8 .int [(.int a3), (.int c2), (.int (0 : Int32))] := AA25
                    have N25 := Fr.snoc X25 N9 g_b8
                    refine own_via st25 ?_
                    show OwnEnds p.tables e below _ (T25.setTop (mkF m 217 #[.val (.int p0), .val (.int p1), .val (.int p2), .val (.int p3), .val (.int p4), .val (.long q5), .second, .val (.int x0), .val (.int nr), .val (.int y2), .val (.int z2), .val (.int km), .val (.int a3), .val (.int b3), .val (.int c2), sl169_l15, .val (.ref b8), .val (.int (1 : Int32)), .unset, .unset, .unset, .unset, .unset, .unset] []))
                    refine own_via (fun t k => XS.iload X25.here hx rfl (hb hby at_217) rfl k) ?_
                    show OwnEnds p.tables e below _ (T25.setTop (mkF m 219 #[.val (.int p0), .val (.int p1), .val (.int p2), .val (.int p3), .val (.int p4), .val (.long q5), .second, .val (.int x0), .val (.int nr), .val (.int y2), .val (.int z2), .val (.int km), .val (.int a3), .val (.int b3), .val (.int c2), sl169_l15, .val (.ref b8), .val (.int (1 : Int32)), .unset, .unset, .unset, .unset, .unset, .unset] [(.int (1 : Int32))]))
                    refine own_via (fun t k => XS.iconst X25.here hx rfl (hb hby at_219) k) ?_
                    show OwnEnds p.tables e below _ (T25.setTop (mkF m 220 #[.val (.int p0), .val (.int p1), .val (.int p2), .val (.int p3), .val (.int p4), .val (.long q5), .second, .val (.int x0), .val (.int nr), .val (.int y2), .val (.int z2), .val (.int km), .val (.int a3), .val (.int b3), .val (.int c2), sl169_l15, .val (.ref b8), .val (.int (1 : Int32)), .unset, .unset, .unset, .unset, .unset, .unset] [(.int (1 : Int32)), (.int (1 : Int32))]))
                    refine own_via (fun t k => XS.iadd X25.here hx rfl (hb hby at_220) rfl k) ?_
                    show OwnEnds p.tables e below _ (T25.setTop (mkF m 221 #[.val (.int p0), .val (.int p1), .val (.int p2), .val (.int p3), .val (.int p4), .val (.long q5), .second, .val (.int x0), .val (.int nr), .val (.int y2), .val (.int z2), .val (.int km), .val (.int a3), .val (.int b3), .val (.int c2), sl169_l15, .val (.ref b8), .val (.int (1 : Int32)), .unset, .unset, .unset, .unset, .unset, .unset] [(.int (2 : Int32))]))
                    refine own_via (fun t k => XS.istore X25.here hx rfl (hb hby at_221) rfl (l' := #[.val (.int p0), .val (.int p1), .val (.int p2), .val (.int p3), .val (.int p4), .val (.long q5), .second, .val (.int x0), .val (.int nr), .val (.int y2), .val (.int z2), .val (.int km), .val (.int a3), .val (.int b3), .val (.int c2), sl169_l15, .val (.ref b8), .val (.int (2 : Int32)), .unset, .unset, .unset, .unset, .unset, .unset]) rfl k) ?_
                    show OwnEnds p.tables e below _ (T25.setTop (mkF m 223 #[.val (.int p0), .val (.int p1), .val (.int p2), .val (.int p3), .val (.int p4), .val (.long q5), .second, .val (.int x0), .val (.int nr), .val (.int y2), .val (.int z2), .val (.int km), .val (.int a3), .val (.int b3), .val (.int c2), sl169_l15, .val (.ref b8), .val (.int (2 : Int32)), .unset, .unset, .unset, .unset, .unset, .unset] []))
                    refine own_via (fun t k => XS.iload X25.here hx rfl (hb hby at_223) rfl k) ?_
                    show OwnEnds p.tables e below _ (T25.setTop (mkF m 225 #[.val (.int p0), .val (.int p1), .val (.int p2), .val (.int p3), .val (.int p4), .val (.long q5), .second, .val (.int x0), .val (.int nr), .val (.int y2), .val (.int z2), .val (.int km), .val (.int a3), .val (.int b3), .val (.int c2), sl169_l15, .val (.ref b8), .val (.int (2 : Int32)), .unset, .unset, .unset, .unset, .unset, .unset] [(.int (2 : Int32))]))
                    refine own_via (fun t k => XS.iconst X25.here hx rfl (hb hby at_225) k) ?_
                    show OwnEnds p.tables e below _ (T25.setTop (mkF m 226 #[.val (.int p0), .val (.int p1), .val (.int p2), .val (.int p3), .val (.int p4), .val (.long q5), .second, .val (.int x0), .val (.int nr), .val (.int y2), .val (.int z2), .val (.int km), .val (.int a3), .val (.int b3), .val (.int c2), sl169_l15, .val (.ref b8), .val (.int (2 : Int32)), .unset, .unset, .unset, .unset, .unset, .unset] [(.int (1 : Int32)), (.int (2 : Int32))]))
                    have hc226_26 : ¬ ((2 : Int32) = (1 : Int32)) := by decide
                    refine own_via (fun t k => XS.icmpYes X25.here hx rfl (pc0 := 226) (pc' := 244) rfl (hb hby at_226) rfl (feq hc226_26).2 (by decide) (by decide) k) ?_
                    show OwnEnds p.tables e below _ (T25.setTop (mkF m 244 #[.val (.int p0), .val (.int p1), .val (.int p2), .val (.int p3), .val (.int p4), .val (.long q5), .second, .val (.int x0), .val (.int nr), .val (.int y2), .val (.int z2), .val (.int km), .val (.int a3), .val (.int b3), .val (.int c2), sl169_l15, .val (.ref b8), .val (.int (2 : Int32)), .unset, .unset, .unset, .unset, .unset, .unset] []))
                    refine own_via (fun t k => XS.iload X25.here hx rfl (hb hby at_244) rfl k) ?_
                    show OwnEnds p.tables e below _ (T25.setTop (mkF m 246 #[.val (.int p0), .val (.int p1), .val (.int p2), .val (.int p3), .val (.int p4), .val (.long q5), .second, .val (.int x0), .val (.int nr), .val (.int y2), .val (.int z2), .val (.int km), .val (.int a3), .val (.int b3), .val (.int c2), sl169_l15, .val (.ref b8), .val (.int (2 : Int32)), .unset, .unset, .unset, .unset, .unset, .unset] [(.int (2 : Int32))]))
                    refine own_via (fun t k => XS.iconst X25.here hx rfl (hb hby at_246) k) ?_
                    show OwnEnds p.tables e below _ (T25.setTop (mkF m 247 #[.val (.int p0), .val (.int p1), .val (.int p2), .val (.int p3), .val (.int p4), .val (.long q5), .second, .val (.int x0), .val (.int nr), .val (.int y2), .val (.int z2), .val (.int km), .val (.int a3), .val (.int b3), .val (.int c2), sl169_l15, .val (.ref b8), .val (.int (2 : Int32)), .unset, .unset, .unset, .unset, .unset, .unset] [(.int (2 : Int32)), (.int (2 : Int32))]))
                    have hc247_27 : (2 : Int32) = (2 : Int32) := by decide
                    refine own_via (fun t k => XS.icmpNo X25.here hx rfl (hb hby at_247) rfl (teq hc247_27).2 k) ?_
                    show OwnEnds p.tables e below _ (T25.setTop (mkF m 250 #[.val (.int p0), .val (.int p1), .val (.int p2), .val (.int p3), .val (.int p4), .val (.long q5), .second, .val (.int x0), .val (.int nr), .val (.int y2), .val (.int z2), .val (.int km), .val (.int a3), .val (.int b3), .val (.int c2), sl169_l15, .val (.ref b8), .val (.int (2 : Int32)), .unset, .unset, .unset, .unset, .unset, .unset] []))
                    refine own_via (fun t k => XS.iconst X25.here hx rfl (hb hby at_250) k) ?_
                    show OwnEnds p.tables e below _ (T25.setTop (mkF m 251 #[.val (.int p0), .val (.int p1), .val (.int p2), .val (.int p3), .val (.int p4), .val (.long q5), .second, .val (.int x0), .val (.int nr), .val (.int y2), .val (.int z2), .val (.int km), .val (.int a3), .val (.int b3), .val (.int c2), sl169_l15, .val (.ref b8), .val (.int (2 : Int32)), .unset, .unset, .unset, .unset, .unset, .unset] [(.int (2 : Int32))]))
                    obtain ⟨T28, h28, k28, X28, e28, E28, A28, st28⟩ := newP X25 hx hZ (hw _ (List.mem_of_getElem? (i := 1) rfl)) e25 (g := (mkF m 251 #[.val (.int p0), .val (.int p1), .val (.int p2), .val (.int p3), .val (.int p4), .val (.long q5), .second, .val (.int x0), .val (.int nr), .val (.int y2), .val (.int z2), .val (.int km), .val (.int a3), .val (.int b3), .val (.int c2), sl169_l15, .val (.ref b8), .val (.int (2 : Int32)), .unset, .unset, .unset, .unset, .unset, .unset] [(.int (2 : Int32))])) rfl (hb hby at_251) rfl (by decide) (cap := 2) (by decide) (by decide) (by decide) (by decide)
                    obtain ⟨b28, g28⟩ : ∃ z, z = h25.size := ⟨_, rfl⟩
                    rw [← g28] at A28 st28
                    have ne_b8_b28 : b8 ≠ b28 := Nat.ne_of_lt (Nat.lt_of_lt_of_le A_b8.lt (Nat.le_of_eq g28.symm))
                    have g_b28 : n0 ≤ b28 := Nat.le_trans Zs_W25 (Nat.le_of_eq g28.symm)
                    have Zs_28 : n0 ≤ _ := Nat.le_trans Zs_W25 E28.1
                    replace A_b8 := A_b8.ext E28
                    have A_b28 : AL Z h28 b28 .int [(.int (0 : Int32)), (.int (0 : Int32))] := AL.new A28 (by decide) (i := 2) rfl
                    refine own_via st28 ?_
                    show OwnEnds p.tables e below _ (T28.setTop (mkF m 253 #[.val (.int p0), .val (.int p1), .val (.int p2), .val (.int p3), .val (.int p4), .val (.long q5), .second, .val (.int x0), .val (.int nr), .val (.int y2), .val (.int z2), .val (.int km), .val (.int a3), .val (.int b3), .val (.int c2), sl169_l15, .val (.ref b8), .val (.int (2 : Int32)), .unset, .unset, .unset, .unset, .unset, .unset] [(.ref b28)]))
                    refine own_via (fun t k => XS.dup X28.here hx rfl (hb hby at_253) rfl rfl k) ?_
                    show OwnEnds p.tables e below _ (T28.setTop (mkF m 254 #[.val (.int p0), .val (.int p1), .val (.int p2), .val (.int p3), .val (.int p4), .val (.long q5), .second, .val (.int x0), .val (.int nr), .val (.int y2), .val (.int z2), .val (.int km), .val (.int a3), .val (.int b3), .val (.int c2), sl169_l15, .val (.ref b8), .val (.int (2 : Int32)), .unset, .unset, .unset, .unset, .unset, .unset] [(.ref b28), (.ref b28)]))
                    refine own_via (fun t k => XS.iconst X28.here hx rfl (hb hby at_254) k) ?_
                    show OwnEnds p.tables e below _ (T28.setTop (mkF m 255 #[.val (.int p0), .val (.int p1), .val (.int p2), .val (.int p3), .val (.int p4), .val (.long q5), .second, .val (.int x0), .val (.int nr), .val (.int y2), .val (.int z2), .val (.int km), .val (.int a3), .val (.int b3), .val (.int c2), sl169_l15, .val (.ref b8), .val (.int (2 : Int32)), .unset, .unset, .unset, .unset, .unset, .unset] [(.int (0 : Int32)), (.ref b28), (.ref b28)]))
                    refine own_via (fun t k => XS.aload X28.here hx rfl (hb hby at_255) rfl rfl k) ?_
                    show OwnEnds p.tables e below _ (T28.setTop (mkF m 257 #[.val (.int p0), .val (.int p1), .val (.int p2), .val (.int p3), .val (.int p4), .val (.long q5), .second, .val (.int x0), .val (.int nr), .val (.int y2), .val (.int z2), .val (.int km), .val (.int a3), .val (.int b3), .val (.int c2), sl169_l15, .val (.ref b8), .val (.int (2 : Int32)), .unset, .unset, .unset, .unset, .unset, .unset] [(.ref b8), (.int (0 : Int32)), (.ref b28), (.ref b28)]))
                    refine own_via (fun t k => XS.iconst X28.here hx rfl (hb hby at_257) k) ?_
                    show OwnEnds p.tables e below _ (T28.setTop (mkF m 258 #[.val (.int p0), .val (.int p1), .val (.int p2), .val (.int p3), .val (.int p4), .val (.long q5), .second, .val (.int x0), .val (.int nr), .val (.int y2), .val (.int z2), .val (.int km), .val (.int a3), .val (.int b3), .val (.int c2), sl169_l15, .val (.ref b8), .val (.int (2 : Int32)), .unset, .unset, .unset, .unset, .unset, .unset] [(.int (0 : Int32)), (.ref b8), (.int (0 : Int32)), (.ref b28), (.ref b28)]))
                    refine own_via (own_ldI X28 hx hZ e28 A_b8 (v := (.int a3)) 0 rfl rfl (g := (mkF m 258 #[.val (.int p0), .val (.int p1), .val (.int p2), .val (.int p3), .val (.int p4), .val (.long q5), .second, .val (.int x0), .val (.int nr), .val (.int y2), .val (.int z2), .val (.int km), .val (.int a3), .val (.int b3), .val (.int c2), sl169_l15, .val (.ref b8), .val (.int (2 : Int32)), .unset, .unset, .unset, .unset, .unset, .unset] [(.int (0 : Int32)), (.ref b8), (.int (0 : Int32)), (.ref b28), (.ref b28)])) rfl rfl (hb hby at_258)) ?_
                    show OwnEnds p.tables e below _ (T28.setTop (mkF m 259 #[.val (.int p0), .val (.int p1), .val (.int p2), .val (.int p3), .val (.int p4), .val (.long q5), .second, .val (.int x0), .val (.int nr), .val (.int y2), .val (.int z2), .val (.int km), .val (.int a3), .val (.int b3), .val (.int c2), sl169_l15, .val (.ref b8), .val (.int (2 : Int32)), .unset, .unset, .unset, .unset, .unset, .unset] [(.int a3), (.int (0 : Int32)), (.ref b28), (.ref b28)]))
                    obtain ⟨T29, h29, X29, e29, W29, AA29, st29⟩ := own_stI X28 hx hZ e28 A_b28 0 rfl (Nat.le_of_ble_eq_true rfl) (g := (mkF m 259 #[.val (.int p0), .val (.int p1), .val (.int p2), .val (.int p3), .val (.int p4), .val (.long q5), .second, .val (.int x0), .val (.int nr), .val (.int y2), .val (.int z2), .val (.int km), .val (.int a3), .val (.int b3), .val (.int c2), sl169_l15, .val (.ref b8), .val (.int (2 : Int32)), .unset, .unset, .unset, .unset, .unset, .unset] [(.int a3), (.int (0 : Int32)), (.ref b28), (.ref b28)])) rfl rfl (hb hby at_259)
                    replace A_b8 := A_b8.other W29 ne_b8_b28
                    have Zs_W29 : n0 ≤ _ := Nat.le_trans Zs_28 (Keep.of_wr W29).1
                    replace A_b28 : AL Z h29 b28 .int [(.int a3), (.int (0 : Int32))] := AA29
                    have N29 := Fr.snoc X29 N25 g_b28
                    refine own_via st29 ?_
                    show OwnEnds p.tables e below _ (T29.setTop (mkF m 260 #[.val (.int p0), .val (.int p1), .val (.int p2), .val (.int p3), .val (.int p4), .val (.long q5), .second, .val (.int x0), .val (.int nr), .val (.int y2), .val (.int z2), .val (.int km), .val (.int a3), .val (.int b3), .val (.int c2), sl169_l15, .val (.ref b8), .val (.int (2 : Int32)), .unset, .unset, .unset, .unset, .unset, .unset] [(.ref b28)]))
                    refine own_via (fun t k => XS.dup X29.here hx rfl (hb hby at_260) rfl rfl k) ?_
                    show OwnEnds p.tables e below _ (T29.setTop (mkF m 261 #[.val (.int p0), .val (.int p1), .val (.int p2), .val (.int p3), .val (.int p4), .val (.long q5), .second, .val (.int x0), .val (.int nr), .val (.int y2), .val (.int z2), .val (.int km), .val (.int a3), .val (.int b3), .val (.int c2), sl169_l15, .val (.ref b8), .val (.int (2 : Int32)), .unset, .unset, .unset, .unset, .unset, .unset] [(.ref b28), (.ref b28)]))
                    refine own_via (fun t k => XS.iconst X29.here hx rfl (hb hby at_261) k) ?_
                    show OwnEnds p.tables e below _ (T29.setTop (mkF m 262 #[.val (.int p0), .val (.int p1), .val (.int p2), .val (.int p3), .val (.int p4), .val (.long q5), .second, .val (.int x0), .val (.int nr), .val (.int y2), .val (.int z2), .val (.int km), .val (.int a3), .val (.int b3), .val (.int c2), sl169_l15, .val (.ref b8), .val (.int (2 : Int32)), .unset, .unset, .unset, .unset, .unset, .unset] [(.int (1 : Int32)), (.ref b28), (.ref b28)]))
                    refine own_via (fun t k => XS.aload X29.here hx rfl (hb hby at_262) rfl rfl k) ?_
                    show OwnEnds p.tables e below _ (T29.setTop (mkF m 264 #[.val (.int p0), .val (.int p1), .val (.int p2), .val (.int p3), .val (.int p4), .val (.long q5), .second, .val (.int x0), .val (.int nr), .val (.int y2), .val (.int z2), .val (.int km), .val (.int a3), .val (.int b3), .val (.int c2), sl169_l15, .val (.ref b8), .val (.int (2 : Int32)), .unset, .unset, .unset, .unset, .unset, .unset] [(.ref b8), (.int (1 : Int32)), (.ref b28), (.ref b28)]))
                    refine own_via (fun t k => XS.iconst X29.here hx rfl (hb hby at_264) k) ?_
                    show OwnEnds p.tables e below _ (T29.setTop (mkF m 265 #[.val (.int p0), .val (.int p1), .val (.int p2), .val (.int p3), .val (.int p4), .val (.long q5), .second, .val (.int x0), .val (.int nr), .val (.int y2), .val (.int z2), .val (.int km), .val (.int a3), .val (.int b3), .val (.int c2), sl169_l15, .val (.ref b8), .val (.int (2 : Int32)), .unset, .unset, .unset, .unset, .unset, .unset] [(.int (1 : Int32)), (.ref b8), (.int (1 : Int32)), (.ref b28), (.ref b28)]))
                    refine own_via (own_ldI X29 hx hZ e29 A_b8 (v := (.int c2)) 1 rfl rfl (g := (mkF m 265 #[.val (.int p0), .val (.int p1), .val (.int p2), .val (.int p3), .val (.int p4), .val (.long q5), .second, .val (.int x0), .val (.int nr), .val (.int y2), .val (.int z2), .val (.int km), .val (.int a3), .val (.int b3), .val (.int c2), sl169_l15, .val (.ref b8), .val (.int (2 : Int32)), .unset, .unset, .unset, .unset, .unset, .unset] [(.int (1 : Int32)), (.ref b8), (.int (1 : Int32)), (.ref b28), (.ref b28)])) rfl rfl (hb hby at_265)) ?_
                    show OwnEnds p.tables e below _ (T29.setTop (mkF m 266 #[.val (.int p0), .val (.int p1), .val (.int p2), .val (.int p3), .val (.int p4), .val (.long q5), .second, .val (.int x0), .val (.int nr), .val (.int y2), .val (.int z2), .val (.int km), .val (.int a3), .val (.int b3), .val (.int c2), sl169_l15, .val (.ref b8), .val (.int (2 : Int32)), .unset, .unset, .unset, .unset, .unset, .unset] [(.int c2), (.int (1 : Int32)), (.ref b28), (.ref b28)]))
                    obtain ⟨T30, h30, X30, e30, W30, AA30, st30⟩ := own_stI X29 hx hZ e29 A_b28 1 rfl (Nat.le_of_ble_eq_true rfl) (g := (mkF m 266 #[.val (.int p0), .val (.int p1), .val (.int p2), .val (.int p3), .val (.int p4), .val (.long q5), .second, .val (.int x0), .val (.int nr), .val (.int y2), .val (.int z2), .val (.int km), .val (.int a3), .val (.int b3), .val (.int c2), sl169_l15, .val (.ref b8), .val (.int (2 : Int32)), .unset, .unset, .unset, .unset, .unset, .unset] [(.int c2), (.int (1 : Int32)), (.ref b28), (.ref b28)])) rfl rfl (hb hby at_266)
                    replace A_b8 := A_b8.other W30 ne_b8_b28
                    have Zs_W30 : n0 ≤ _ := Nat.le_trans Zs_W29 (Keep.of_wr W30).1
                    replace A_b28 : AL Z h30 b28 .int [(.int a3), (.int c2)] := AA30
                    have N30 := Fr.snoc X30 N29 g_b28
                    refine own_via st30 ?_
                    show OwnEnds p.tables e below _ (T30.setTop (mkF m 267 #[.val (.int p0), .val (.int p1), .val (.int p2), .val (.int p3), .val (.int p4), .val (.long q5), .second, .val (.int x0), .val (.int nr), .val (.int y2), .val (.int z2), .val (.int km), .val (.int a3), .val (.int b3), .val (.int c2), sl169_l15, .val (.ref b8), .val (.int (2 : Int32)), .unset, .unset, .unset, .unset, .unset, .unset] [(.ref b28)]))
                    refine own_via (fun t k => XS.astore X30.here hx rfl (hb hby at_267) rfl rfl (l' := #[.val (.int p0), .val (.int p1), .val (.int p2), .val (.int p3), .val (.int p4), .val (.long q5), .second, .val (.int x0), .val (.int nr), .val (.int y2), .val (.int z2), .val (.int km), .val (.int a3), .val (.int b3), .val (.int c2), sl169_l15, .val (.ref b8), .val (.int (2 : Int32)), .val (.ref b28), .unset, .unset, .unset, .unset, .unset]) rfl k) ?_
                    show OwnEnds p.tables e below _ (T30.setTop (mkF m 269 #[.val (.int p0), .val (.int p1), .val (.int p2), .val (.int p3), .val (.int p4), .val (.long q5), .second, .val (.int x0), .val (.int nr), .val (.int y2), .val (.int z2), .val (.int km), .val (.int a3), .val (.int b3), .val (.int c2), sl169_l15, .val (.ref b8), .val (.int (2 : Int32)), .val (.ref b28), .unset, .unset, .unset, .unset, .unset] []))
                    refine own_via (fun t k => XS.goto X30.here hx rfl (pc0 := 269) (pc' := 298) rfl (hb hby at_269) (by decide) (by decide) k) ?_
                    show OwnEnds p.tables e below _ (T30.setTop (mkF m 298 #[.val (.int p0), .val (.int p1), .val (.int p2), .val (.int p3), .val (.int p4), .val (.long q5), .second, .val (.int x0), .val (.int nr), .val (.int y2), .val (.int z2), .val (.int km), .val (.int a3), .val (.int b3), .val (.int c2), sl169_l15, .val (.ref b8), .val (.int (2 : Int32)), .val (.ref b28), .unset, .unset, .unset, .unset, .unset] []))
                    obtain ⟨T31, h31, X31, e31, E31, A31, D31, -, st31⟩ := newO X30 hx hZ hown (hw _ (List.mem_of_getElem? (i := 2) rfl)) (hw _ (List.mem_of_getElem? (i := 3) rfl)) (hw _ (List.mem_of_getElem? (i := 4) rfl)) e30 (g := (mkF m 298 #[.val (.int p0), .val (.int p1), .val (.int p2), .val (.int p3), .val (.int p4), .val (.long q5), .second, .val (.int x0), .val (.int nr), .val (.int y2), .val (.int z2), .val (.int km), .val (.int a3), .val (.int b3), .val (.int c2), sl169_l15, .val (.ref b8), .val (.int (2 : Int32)), .val (.ref b28), .unset, .unset, .unset, .unset, .unset] [])) rfl (hb hby at_298) (by decide) (by decide)
                    obtain ⟨b31, g31⟩ : ∃ z, z = h30.size := ⟨_, rfl⟩
                    rw [← g31] at A31 D31 st31
                    have ne_b28_b31 : b28 ≠ b31 := Nat.ne_of_lt (Nat.lt_of_lt_of_le A_b28.lt (Nat.le_of_eq g31.symm))
                    have ne_b8_b31 : b8 ≠ b31 := Nat.ne_of_lt (Nat.lt_of_lt_of_le A_b8.lt (Nat.le_of_eq g31.symm))
                    have g_b31 : n0 ≤ b31 := Nat.le_trans Zs_W30 (Nat.le_of_eq g31.symm)
                    have Zs_31 : n0 ≤ _ := Nat.le_trans Zs_W30 E31.1
                    replace A_b8 := A_b8.ext E31
                    replace A_b28 := A_b28.ext E31
                    have E_b31 := A31
                    have F_index_b31 : Fld Z h31 b31 "com/example/crowd_cache/crowdcache/core/Bucket" "index" "J" (.long (0 : Int64)) := D31 (Or.inr (hw _ (List.mem_of_getElem? (i := 13) rfl))) (ty := .long) (by decide)
                    have F_positions_b31 : Fld Z h31 b31 "com/example/crowd_cache/crowdcache/core/Bucket" "positions" "[I" .null := D31 (Or.inr (hw _ (List.mem_of_getElem? (i := 15) rfl))) (ty := (.array .int)) (by decide)
                    refine own_via st31 ?_
                    show OwnEnds p.tables e below _ (T31.setTop (mkF m 301 #[.val (.int p0), .val (.int p1), .val (.int p2), .val (.int p3), .val (.int p4), .val (.long q5), .second, .val (.int x0), .val (.int nr), .val (.int y2), .val (.int z2), .val (.int km), .val (.int a3), .val (.int b3), .val (.int c2), sl169_l15, .val (.ref b8), .val (.int (2 : Int32)), .val (.ref b28), .unset, .unset, .unset, .unset, .unset] [(.ref b31)]))
                    refine own_via (fun t k => XS.dup X31.here hx rfl (hb hby at_301) rfl rfl k) ?_
                    show OwnEnds p.tables e below _ (T31.setTop (mkF m 302 #[.val (.int p0), .val (.int p1), .val (.int p2), .val (.int p3), .val (.int p4), .val (.long q5), .second, .val (.int x0), .val (.int nr), .val (.int y2), .val (.int z2), .val (.int km), .val (.int a3), .val (.int b3), .val (.int c2), sl169_l15, .val (.ref b8), .val (.int (2 : Int32)), .val (.ref b28), .unset, .unset, .unset, .unset, .unset] [(.ref b31), (.ref b31)]))
                    refine own_via (fun t k => XS.lload X31.here hx rfl (hb hby at_302) rfl k) ?_
                    show OwnEnds p.tables e below _ (T31.setTop (mkF m 304 #[.val (.int p0), .val (.int p1), .val (.int p2), .val (.int p3), .val (.int p4), .val (.long q5), .second, .val (.int x0), .val (.int nr), .val (.int y2), .val (.int z2), .val (.int km), .val (.int a3), .val (.int b3), .val (.int c2), sl169_l15, .val (.ref b8), .val (.int (2 : Int32)), .val (.ref b28), .unset, .unset, .unset, .unset, .unset] [(.long q5), (.ref b31), (.ref b31)]))
                    refine own_via (X31.ldc2Long hx hown (mvT hZ (hw _ (List.mem_of_getElem? (i := 5) rfl))) (g := (mkF m 304 #[.val (.int p0), .val (.int p1), .val (.int p2), .val (.int p3), .val (.int p4), .val (.long q5), .second, .val (.int x0), .val (.int nr), .val (.int y2), .val (.int z2), .val (.int km), .val (.int a3), .val (.int b3), .val (.int c2), sl169_l15, .val (.ref b8), .val (.int (2 : Int32)), .val (.ref b28), .unset, .unset, .unset, .unset, .unset] [(.long q5), (.ref b31), (.ref b31)])) rfl (hb hby at_304)) ?_
                    show OwnEnds p.tables e below _ (T31.setTop (mkF m 307 #[.val (.int p0), .val (.int p1), .val (.int p2), .val (.int p3), .val (.int p4), .val (.long q5), .second, .val (.int x0), .val (.int nr), .val (.int y2), .val (.int z2), .val (.int km), .val (.int a3), .val (.int b3), .val (.int c2), sl169_l15, .val (.ref b8), .val (.int (2 : Int32)), .val (.ref b28), .unset, .unset, .unset, .unset, .unset] [(.long (140737488355327 : Int64)), (.long q5), (.ref b31), (.ref b31)]))
                    refine own_via (fun t k => XS.land X31.here hx rfl (hb hby at_307) rfl k) ?_
                    show OwnEnds p.tables e below _ (T31.setTop (mkF m 308 #[.val (.int p0), .val (.int p1), .val (.int p2), .val (.int p3), .val (.int p4), .val (.long q5), .second, .val (.int x0), .val (.int nr), .val (.int y2), .val (.int z2), .val (.int km), .val (.int a3), .val (.int b3), .val (.int c2), sl169_l15, .val (.ref b8), .val (.int (2 : Int32)), .val (.ref b28), .unset, .unset, .unset, .unset, .unset] [(.long (q5 &&& (140737488355327 : Int64))), (.ref b31), (.ref b31)]))
                    refine own_via (fun t k => XS.aload X31.here hx rfl (hb hby at_308) rfl rfl k) ?_
                    show OwnEnds p.tables e below _ (T31.setTop (mkF m 310 #[.val (.int p0), .val (.int p1), .val (.int p2), .val (.int p3), .val (.int p4), .val (.long q5), .second, .val (.int x0), .val (.int nr), .val (.int y2), .val (.int z2), .val (.int km), .val (.int a3), .val (.int b3), .val (.int c2), sl169_l15, .val (.ref b8), .val (.int (2 : Int32)), .val (.ref b28), .unset, .unset, .unset, .unset, .unset] [(.ref b28), (.long (q5 &&& (140737488355327 : Int64))), (.ref b31), (.ref b31)]))
                    obtain ⟨_, _, ⟨T32, L32, k32, n32⟩, -, X32, ⟨Lc32, hQ32, l32, y32, z32⟩, st32⟩ := X31.specialBack hx (y := (⟨"com/example/crowd_cache/crowdcache/core/Bucket", "<init>", "(J[I)V"⟩ : MethodName)) rfl hown (mvT hZ (hw _ (List.mem_of_getElem? (i := 6) rfl))) (mvT hZ (hw _ (List.mem_of_getElem? (i := 7) rfl))) (mvT hZ (hw _ (List.mem_of_getElem? (i := 8) rfl))) (by decide) (backOf (W := 1) (rm1 l Z aw hw [] b31 (q5 &&& (140737488355327 : Int64)) b28 h31 n0 Zs_31 E_b31 F_index_b31 F_positions_b31 g_b31) hZ (hw _ (List.mem_of_getElem? (i := 8) rfl)) (hw _ (List.mem_of_getElem? (i := 4) rfl)) (by decide) (by decide)) (g := (mkF m 310 #[.val (.int p0), .val (.int p1), .val (.int p2), .val (.int p3), .val (.int p4), .val (.long q5), .second, .val (.int x0), .val (.int nr), .val (.int y2), .val (.int z2), .val (.int km), .val (.int a3), .val (.int b3), .val (.int c2), sl169_l15, .val (.ref b8), .val (.int (2 : Int32)), .val (.ref b28), .unset, .unset, .unset, .unset, .unset] [(.ref b28), (.long (q5 &&& (140737488355327 : Int64))), (.ref b31), (.ref b31)])) rfl (by rw [hml]; rfl) (Steps.refl _) (a := b31) (argsL := [(.long (q5 &&& (140737488355327 : Int64))), (.ref b28)]) (rest := [(.ref b31)]) (lenOf pd_2 rfl) rfl (by show 2 * 0 + _ ≤ _; exact Nat.le_of_eq rfl) (hb hby at_310) (fun _ _ => ⟨rfl, e31, (by decide : 3 + 0 ≤ _), (by decide : 7 + 0 ≤ _)⟩)
                    dsimp only [Pt.U, Pt.locs, Pt.cells, Pt.slots] at X32 l32 y32 z32 st32 hQ32
                    subst l32 y32 z32
                    obtain ⟨h32, e32⟩ : ∃ z, T32.heap = z := ⟨_, rfl⟩
                    rw [e32] at hQ32
                    obtain ⟨rfl, Nq32, K32, Y32_0, Y32_1, Y32_2⟩ := hQ32
                    have N32 := Fr.app N30 Nq32
                    replace A_b8 := A_b8.keep K32 (ninS ne_b8_b31 nin0)
                    replace A_b28 := A_b28.keep K32 (ninS ne_b28_b31 nin0)
                    replace E_b31 := E_b31.keep K32
                    have F_index_b31 : Fld Z h32 b31 "com/example/crowd_cache/crowdcache/core/Bucket" "index" "J" (.long (q5 &&& (140737488355327 : Int64))) := Y32_1
                    have F_positions_b31 : Fld Z h32 b31 "com/example/crowd_cache/crowdcache/core/Bucket" "positions" "[I" (.ref b28) := Y32_2
                    have Zs_32 : n0 ≤ _ := Nat.le_trans Zs_31 K32.1
                    refine own_of st32 ?_
                    show OwnEnds p.tables e below _ (T32.setTop (mkF m 313 #[.val (.int p0), .val (.int p1), .val (.int p2), .val (.int p3), .val (.int p4), .val (.long q5), .second, .val (.int x0), .val (.int nr), .val (.int y2), .val (.int z2), .val (.int km), .val (.int a3), .val (.int b3), .val (.int c2), sl169_l15, .val (.ref b8), .val (.int (2 : Int32)), .val (.ref b28), .unset, .unset, .unset, .unset, .unset] [(.ref b31)]))
                    refine own_via (fun t k => XS.astore X32.here hx rfl (hb hby at_313) rfl rfl (l' := #[.val (.int p0), .val (.int p1), .val (.int p2), .val (.int p3), .val (.int p4), .val (.long q5), .second, .val (.int x0), .val (.int nr), .val (.int y2), .val (.int z2), .val (.int km), .val (.int a3), .val (.int b3), .val (.int c2), sl169_l15, .val (.ref b8), .val (.int (2 : Int32)), .val (.ref b28), .val (.ref b31), .unset, .unset, .unset, .unset]) rfl k) ?_
                    show OwnEnds p.tables e below _ (T32.setTop (mkF m 315 #[.val (.int p0), .val (.int p1), .val (.int p2), .val (.int p3), .val (.int p4), .val (.long q5), .second, .val (.int x0), .val (.int nr), .val (.int y2), .val (.int z2), .val (.int km), .val (.int a3), .val (.int b3), .val (.int c2), sl169_l15, .val (.ref b8), .val (.int (2 : Int32)), .val (.ref b28), .val (.ref b31), .unset, .unset, .unset, .unset] []))
                    refine own_via (fun t k => XS.aload X32.here hx rfl (hb hby at_315) rfl rfl k) ?_
                    show OwnEnds p.tables e below _ (T32.setTop (mkF m 317 #[.val (.int p0), .val (.int p1), .val (.int p2), .val (.int p3), .val (.int p4), .val (.long q5), .second, .val (.int x0), .val (.int nr), .val (.int y2), .val (.int z2), .val (.int km), .val (.int a3), .val (.int b3), .val (.int c2), sl169_l15, .val (.ref b8), .val (.int (2 : Int32)), .val (.ref b28), .val (.ref b31), .unset, .unset, .unset, .unset] [(.ref b31)]))
                    obtain ⟨cq33, kq33, q33a, q33b, q33c⟩ := isOf hZ e32 E_b31
                    obtain ⟨_, _, ⟨T33, L33, k33, n33⟩, -, X33, ⟨Lc33, hQ33, l33, y33, z33⟩, st33⟩ := X32.virtualBack hx (y := (⟨"com/example/crowd_cache/crowdcache/core/Bucket", "toBitmap", "()[B"⟩ : MethodName)) (z := (⟨"com/example/crowd_cache/crowdcache/core/Bucket", "toBitmap", "()[B"⟩ : MethodName)) hown (mvT hZ (hw _ (List.mem_of_getElem? (i := 16) rfl))) (mvT hZ (hw _ (List.mem_of_getElem? (i := 17) rfl))) (notFace_of_selects (args := #[]) (mvT hZ (hw _ (List.mem_of_getElem? (i := 19) rfl)))) (mvT hZ (hw _ (List.mem_of_getElem? (i := 19) rfl))) (mvT hZ (hw _ (List.mem_of_getElem? (i := 18) rfl))) (by decide) (backOf (W := 0) (rm32 l Z aw hw [] b31 b28 a3 c2 h32 n0 Zs_32 E_b31 F_positions_b31 A_b28 hr_a3 hr_c2 (Int.le_trans hab hbc) (Int.le_refl _)) hZ (hw _ (List.mem_of_getElem? (i := 20) rfl)) (hw _ (List.mem_of_getElem? (i := 4) rfl)) (by decide) (by decide)) q33a q33c (g := (mkF m 317 #[.val (.int p0), .val (.int p1), .val (.int p2), .val (.int p3), .val (.int p4), .val (.long q5), .second, .val (.int x0), .val (.int nr), .val (.int y2), .val (.int z2), .val (.int km), .val (.int a3), .val (.int b3), .val (.int c2), sl169_l15, .val (.ref b8), .val (.int (2 : Int32)), .val (.ref b28), .val (.ref b31), .unset, .unset, .unset, .unset] [(.ref b31)])) rfl (by rw [hml]; rfl) (Steps.refl _) (argsL := []) (rest := []) (lenOf pd_3 rfl) rfl (by show 2 * 0 + _ ≤ _; exact Nat.le_of_eq rfl) (hb hby at_317) (fun _ _ => ⟨rfl, e32, (by decide : 3 + 1 ≤ _), (by decide : 7 + 8192 ≤ _)⟩)
                    dsimp only [Pt.U, Pt.locs, Pt.cells, Pt.slots] at X33 l33 y33 z33 st33 hQ33
                    subst l33 y33 z33
                    obtain ⟨h33, e33⟩ : ∃ z, T33.heap = z := ⟨_, rfl⟩
                    rw [e33] at hQ33
                    obtain ⟨bm, rfl, Nq33, K33, sz_bm', Y33_0⟩ := hQ33
                    have N33 := Fr.app N32 Nq33
                    have ne_b28_bm : b28 ≠ bm := Nat.ne_of_lt (Nat.lt_of_lt_of_le A_b28.lt sz_bm')
                    have ne_b31_bm : b31 ≠ bm := Nat.ne_of_lt (Nat.lt_of_lt_of_le E_b31.lt sz_bm')
                    have ne_b8_bm : b8 ≠ bm := Nat.ne_of_lt (Nat.lt_of_lt_of_le A_b8.lt sz_bm')
                    have g_bm : n0 ≤ bm := Nat.le_trans Zs_32 sz_bm'
                    replace A_b8 := A_b8.keep K33 nin0
                    replace A_b28 := A_b28.keep K33 nin0
                    replace E_b31 := E_b31.keep K33
                    replace F_index_b31 := F_index_b31.keep K33 nin0
                    replace F_positions_b31 := F_positions_b31.keep K33 nin0
                    have A_bm : AL Z h33 bm .byte (own_bl ((c2 / 8).toNatClampNeg + 1) [a3, c2]) := Y33_0
                    have Zs_33 : n0 ≤ _ := Nat.le_trans Zs_32 K33.1
                    refine own_of st33 ?_
                    show OwnEnds p.tables e below _ (T33.setTop (mkF m 320 #[.val (.int p0), .val (.int p1), .val (.int p2), .val (.int p3), .val (.int p4), .val (.long q5), .second, .val (.int x0), .val (.int nr), .val (.int y2), .val (.int z2), .val (.int km), .val (.int a3), .val (.int b3), .val (.int c2), sl169_l15, .val (.ref b8), .val (.int (2 : Int32)), .val (.ref b28), .val (.ref b31), .unset, .unset, .unset, .unset] [(.ref bm)]))
                    refine own_via (fun t k => XS.astore X33.here hx rfl (hb hby at_320) rfl rfl (l' := #[.val (.int p0), .val (.int p1), .val (.int p2), .val (.int p3), .val (.int p4), .val (.long q5), .second, .val (.int x0), .val (.int nr), .val (.int y2), .val (.int z2), .val (.int km), .val (.int a3), .val (.int b3), .val (.int c2), sl169_l15, .val (.ref b8), .val (.int (2 : Int32)), .val (.ref b28), .val (.ref b31), .val (.ref bm), .unset, .unset, .unset]) rfl k) ?_
                    show OwnEnds p.tables e below _ (T33.setTop (mkF m 322 #[.val (.int p0), .val (.int p1), .val (.int p2), .val (.int p3), .val (.int p4), .val (.long q5), .second, .val (.int x0), .val (.int nr), .val (.int y2), .val (.int z2), .val (.int km), .val (.int a3), .val (.int b3), .val (.int c2), sl169_l15, .val (.ref b8), .val (.int (2 : Int32)), .val (.ref b28), .val (.ref b31), .val (.ref bm), .unset, .unset, .unset] []))
                    refine own_via (fun t k => XS.aload X33.here hx rfl (hb hby at_322) rfl rfl k) ?_
                    show OwnEnds p.tables e below _ (T33.setTop (mkF m 324 #[.val (.int p0), .val (.int p1), .val (.int p2), .val (.int p3), .val (.int p4), .val (.long q5), .second, .val (.int x0), .val (.int nr), .val (.int y2), .val (.int z2), .val (.int km), .val (.int a3), .val (.int b3), .val (.int c2), sl169_l15, .val (.ref b8), .val (.int (2 : Int32)), .val (.ref b28), .val (.ref b31), .val (.ref bm), .unset, .unset, .unset] [(.ref b8)]))
                    refine own_via (fun t k => XS.iload X33.here hx rfl (hb hby at_324) rfl k) ?_
                    show OwnEnds p.tables e below _ (T33.setTop (mkF m 326 #[.val (.int p0), .val (.int p1), .val (.int p2), .val (.int p3), .val (.int p4), .val (.long q5), .second, .val (.int x0), .val (.int nr), .val (.int y2), .val (.int z2), .val (.int km), .val (.int a3), .val (.int b3), .val (.int c2), sl169_l15, .val (.ref b8), .val (.int (2 : Int32)), .val (.ref b28), .val (.ref b31), .val (.ref bm), .unset, .unset, .unset] [(.int (2 : Int32)), (.ref b8)]))
                    refine own_via (fun t k => XS.iconst X33.here hx rfl (hb hby at_326) k) ?_
                    show OwnEnds p.tables e below _ (T33.setTop (mkF m 327 #[.val (.int p0), .val (.int p1), .val (.int p2), .val (.int p3), .val (.int p4), .val (.long q5), .second, .val (.int x0), .val (.int nr), .val (.int y2), .val (.int z2), .val (.int km), .val (.int a3), .val (.int b3), .val (.int c2), sl169_l15, .val (.ref b8), .val (.int (2 : Int32)), .val (.ref b28), .val (.ref b31), .val (.ref bm), .unset, .unset, .unset] [(.int (1 : Int32)), (.int (2 : Int32)), (.ref b8)]))
                    refine own_via (fun t k => XS.isub X33.here hx rfl (hb hby at_327) rfl k) ?_
                    show OwnEnds p.tables e below _ (T33.setTop (mkF m 328 #[.val (.int p0), .val (.int p1), .val (.int p2), .val (.int p3), .val (.int p4), .val (.long q5), .second, .val (.int x0), .val (.int nr), .val (.int y2), .val (.int z2), .val (.int km), .val (.int a3), .val (.int b3), .val (.int c2), sl169_l15, .val (.ref b8), .val (.int (2 : Int32)), .val (.ref b28), .val (.ref b31), .val (.ref bm), .unset, .unset, .unset] [(.int (1 : Int32)), (.ref b8)]))
                    refine own_via (own_ldI X33 hx hZ e33 A_b8 (v := (.int c2)) 1 rfl rfl (g := (mkF m 328 #[.val (.int p0), .val (.int p1), .val (.int p2), .val (.int p3), .val (.int p4), .val (.long q5), .second, .val (.int x0), .val (.int nr), .val (.int y2), .val (.int z2), .val (.int km), .val (.int a3), .val (.int b3), .val (.int c2), sl169_l15, .val (.ref b8), .val (.int (2 : Int32)), .val (.ref b28), .val (.ref b31), .val (.ref bm), .unset, .unset, .unset] [(.int (1 : Int32)), (.ref b8)])) rfl rfl (hb hby at_328)) ?_
                    show OwnEnds p.tables e below _ (T33.setTop (mkF m 329 #[.val (.int p0), .val (.int p1), .val (.int p2), .val (.int p3), .val (.int p4), .val (.long q5), .second, .val (.int x0), .val (.int nr), .val (.int y2), .val (.int z2), .val (.int km), .val (.int a3), .val (.int b3), .val (.int c2), sl169_l15, .val (.ref b8), .val (.int (2 : Int32)), .val (.ref b28), .val (.ref b31), .val (.ref bm), .unset, .unset, .unset] [(.int c2)]))
                    refine own_via (fun t k => XS.istore X33.here hx rfl (hb hby at_329) rfl (l' := #[.val (.int p0), .val (.int p1), .val (.int p2), .val (.int p3), .val (.int p4), .val (.long q5), .second, .val (.int x0), .val (.int nr), .val (.int y2), .val (.int z2), .val (.int km), .val (.int a3), .val (.int b3), .val (.int c2), sl169_l15, .val (.ref b8), .val (.int (2 : Int32)), .val (.ref b28), .val (.ref b31), .val (.ref bm), .val (.int c2), .unset, .unset]) rfl k) ?_
                    show OwnEnds p.tables e below _ (T33.setTop (mkF m 331 #[.val (.int p0), .val (.int p1), .val (.int p2), .val (.int p3), .val (.int p4), .val (.long q5), .second, .val (.int x0), .val (.int nr), .val (.int y2), .val (.int z2), .val (.int km), .val (.int a3), .val (.int b3), .val (.int c2), sl169_l15, .val (.ref b8), .val (.int (2 : Int32)), .val (.ref b28), .val (.ref b31), .val (.ref bm), .val (.int c2), .unset, .unset] []))
                    refine own_via (fun t k => XS.aload X33.here hx rfl (hb hby at_331) rfl rfl k) ?_
                    show OwnEnds p.tables e below _ (T33.setTop (mkF m 333 #[.val (.int p0), .val (.int p1), .val (.int p2), .val (.int p3), .val (.int p4), .val (.long q5), .second, .val (.int x0), .val (.int nr), .val (.int y2), .val (.int z2), .val (.int km), .val (.int a3), .val (.int b3), .val (.int c2), sl169_l15, .val (.ref b8), .val (.int (2 : Int32)), .val (.ref b28), .val (.ref b31), .val (.ref bm), .val (.int c2), .unset, .unset] [(.ref bm)]))
                    refine own_via (own_len X33 hx hZ e33 A_bm (z := ((c2 / (8 : Int32)) + (1 : Int32))) (by rw [own_bll]; exact (own_tl hr_c2).1) (g := (mkF m 333 #[.val (.int p0), .val (.int p1), .val (.int p2), .val (.int p3), .val (.int p4), .val (.long q5), .second, .val (.int x0), .val (.int nr), .val (.int y2), .val (.int z2), .val (.int km), .val (.int a3), .val (.int b3), .val (.int c2), sl169_l15, .val (.ref b8), .val (.int (2 : Int32)), .val (.ref b28), .val (.ref b31), .val (.ref bm), .val (.int c2), .unset, .unset] [(.ref bm)])) rfl rfl (hb hby at_333)) ?_
                    show OwnEnds p.tables e below _ (T33.setTop (mkF m 334 #[.val (.int p0), .val (.int p1), .val (.int p2), .val (.int p3), .val (.int p4), .val (.long q5), .second, .val (.int x0), .val (.int nr), .val (.int y2), .val (.int z2), .val (.int km), .val (.int a3), .val (.int b3), .val (.int c2), sl169_l15, .val (.ref b8), .val (.int (2 : Int32)), .val (.ref b28), .val (.ref b31), .val (.ref bm), .val (.int c2), .unset, .unset] [(.int ((c2 / (8 : Int32)) + (1 : Int32)))]))
                    refine own_via (fun t k => XS.iload X33.here hx rfl (hb hby at_334) rfl k) ?_
                    show OwnEnds p.tables e below _ (T33.setTop (mkF m 336 #[.val (.int p0), .val (.int p1), .val (.int p2), .val (.int p3), .val (.int p4), .val (.long q5), .second, .val (.int x0), .val (.int nr), .val (.int y2), .val (.int z2), .val (.int km), .val (.int a3), .val (.int b3), .val (.int c2), sl169_l15, .val (.ref b8), .val (.int (2 : Int32)), .val (.ref b28), .val (.ref b31), .val (.ref bm), .val (.int c2), .unset, .unset] [(.int c2), (.int ((c2 / (8 : Int32)) + (1 : Int32)))]))
                    refine own_via (fun t k => XS.bipush X33.here hx rfl (hb hby at_336) k) ?_
                    show OwnEnds p.tables e below _ (T33.setTop (mkF m 338 #[.val (.int p0), .val (.int p1), .val (.int p2), .val (.int p3), .val (.int p4), .val (.long q5), .second, .val (.int x0), .val (.int nr), .val (.int y2), .val (.int z2), .val (.int km), .val (.int a3), .val (.int b3), .val (.int c2), sl169_l15, .val (.ref b8), .val (.int (2 : Int32)), .val (.ref b28), .val (.ref b31), .val (.ref bm), .val (.int c2), .unset, .unset] [(.int (8 : Int32)), (.int c2), (.int ((c2 / (8 : Int32)) + (1 : Int32)))]))
                    refine own_via (fun t k => XS.idiv X33.here hx rfl (hb hby at_338) rfl (by decide) k) ?_
                    show OwnEnds p.tables e below _ (T33.setTop (mkF m 339 #[.val (.int p0), .val (.int p1), .val (.int p2), .val (.int p3), .val (.int p4), .val (.long q5), .second, .val (.int x0), .val (.int nr), .val (.int y2), .val (.int z2), .val (.int km), .val (.int a3), .val (.int b3), .val (.int c2), sl169_l15, .val (.ref b8), .val (.int (2 : Int32)), .val (.ref b28), .val (.ref b31), .val (.ref bm), .val (.int c2), .unset, .unset] [(.int (c2 / (8 : Int32))), (.int ((c2 / (8 : Int32)) + (1 : Int32)))]))
                    refine own_via (fun t k => XS.iconst X33.here hx rfl (hb hby at_339) k) ?_
                    show OwnEnds p.tables e below _ (T33.setTop (mkF m 340 #[.val (.int p0), .val (.int p1), .val (.int p2), .val (.int p3), .val (.int p4), .val (.long q5), .second, .val (.int x0), .val (.int nr), .val (.int y2), .val (.int z2), .val (.int km), .val (.int a3), .val (.int b3), .val (.int c2), sl169_l15, .val (.ref b8), .val (.int (2 : Int32)), .val (.ref b28), .val (.ref b31), .val (.ref bm), .val (.int c2), .unset, .unset] [(.int (1 : Int32)), (.int (c2 / (8 : Int32))), (.int ((c2 / (8 : Int32)) + (1 : Int32)))]))
                    refine own_via (fun t k => XS.iadd X33.here hx rfl (hb hby at_340) rfl k) ?_
                    show OwnEnds p.tables e below _ (T33.setTop (mkF m 341 #[.val (.int p0), .val (.int p1), .val (.int p2), .val (.int p3), .val (.int p4), .val (.long q5), .second, .val (.int x0), .val (.int nr), .val (.int y2), .val (.int z2), .val (.int km), .val (.int a3), .val (.int b3), .val (.int c2), sl169_l15, .val (.ref b8), .val (.int (2 : Int32)), .val (.ref b28), .val (.ref b31), .val (.ref bm), .val (.int c2), .unset, .unset] [(.int ((c2 / (8 : Int32)) + (1 : Int32))), (.int ((c2 / (8 : Int32)) + (1 : Int32)))]))
                    have hc341_34 : ((c2 / (8 : Int32)) + (1 : Int32)) = ((c2 / (8 : Int32)) + (1 : Int32)) := rfl
                    refine own_via (fun t k => XS.icmpYes X33.here hx rfl (pc0 := 341) (pc' := 346) rfl (hb hby at_341) rfl (teq hc341_34).1 (by decide) (by decide) k) ?_
                    show OwnEnds p.tables e below _ (T33.setTop (mkF m 346 #[.val (.int p0), .val (.int p1), .val (.int p2), .val (.int p3), .val (.int p4), .val (.long q5), .second, .val (.int x0), .val (.int nr), .val (.int y2), .val (.int z2), .val (.int km), .val (.int a3), .val (.int b3), .val (.int c2), sl169_l15, .val (.ref b8), .val (.int (2 : Int32)), .val (.ref b28), .val (.ref b31), .val (.ref bm), .val (.int c2), .unset, .unset] []))
                    refine own_via (fun t k => XS.aload X33.here hx rfl (hb hby at_346) rfl rfl k) ?_
                    show OwnEnds p.tables e below _ (T33.setTop (mkF m 348 #[.val (.int p0), .val (.int p1), .val (.int p2), .val (.int p3), .val (.int p4), .val (.long q5), .second, .val (.int x0), .val (.int nr), .val (.int y2), .val (.int z2), .val (.int km), .val (.int a3), .val (.int b3), .val (.int c2), sl169_l15, .val (.ref b8), .val (.int (2 : Int32)), .val (.ref b28), .val (.ref b31), .val (.ref bm), .val (.int c2), .unset, .unset] [(.ref bm)]))
                    refine own_via (fun t k => XS.aload X33.here hx rfl (hb hby at_348) rfl rfl k) ?_
                    show OwnEnds p.tables e below _ (T33.setTop (mkF m 350 #[.val (.int p0), .val (.int p1), .val (.int p2), .val (.int p3), .val (.int p4), .val (.long q5), .second, .val (.int x0), .val (.int nr), .val (.int y2), .val (.int z2), .val (.int km), .val (.int a3), .val (.int b3), .val (.int c2), sl169_l15, .val (.ref b8), .val (.int (2 : Int32)), .val (.ref b28), .val (.ref b31), .val (.ref bm), .val (.int c2), .unset, .unset] [(.ref b8), (.ref bm)]))
                    refine own_via (fun t k => XS.iload X33.here hx rfl (hb hby at_350) rfl k) ?_
                    show OwnEnds p.tables e below _ (T33.setTop (mkF m 352 #[.val (.int p0), .val (.int p1), .val (.int p2), .val (.int p3), .val (.int p4), .val (.long q5), .second, .val (.int x0), .val (.int nr), .val (.int y2), .val (.int z2), .val (.int km), .val (.int a3), .val (.int b3), .val (.int c2), sl169_l15, .val (.ref b8), .val (.int (2 : Int32)), .val (.ref b28), .val (.ref b31), .val (.ref bm), .val (.int c2), .unset, .unset] [(.int (2 : Int32)), (.ref b8), (.ref bm)]))
                    refine own_via (fun t k => XS.aload X33.here hx rfl (hb hby at_352) rfl rfl k) ?_
                    show OwnEnds p.tables e below _ (T33.setTop (mkF m 354 #[.val (.int p0), .val (.int p1), .val (.int p2), .val (.int p3), .val (.int p4), .val (.long q5), .second, .val (.int x0), .val (.int nr), .val (.int y2), .val (.int z2), .val (.int km), .val (.int a3), .val (.int b3), .val (.int c2), sl169_l15, .val (.ref b8), .val (.int (2 : Int32)), .val (.ref b28), .val (.ref b31), .val (.ref bm), .val (.int c2), .unset, .unset] [(.ref b8), (.int (2 : Int32)), (.ref b8), (.ref bm)]))
                    refine own_via (fun t k => XS.iconst X33.here hx rfl (hb hby at_354) k) ?_
                    show OwnEnds p.tables e below _ (T33.setTop (mkF m 355 #[.val (.int p0), .val (.int p1), .val (.int p2), .val (.int p3), .val (.int p4), .val (.long q5), .second, .val (.int x0), .val (.int nr), .val (.int y2), .val (.int z2), .val (.int km), .val (.int a3), .val (.int b3), .val (.int c2), sl169_l15, .val (.ref b8), .val (.int (2 : Int32)), .val (.ref b28), .val (.ref b31), .val (.ref bm), .val (.int c2), .unset, .unset] [(.int (0 : Int32)), (.ref b8), (.int (2 : Int32)), (.ref b8), (.ref bm)]))
                    refine own_via (own_ldI X33 hx hZ e33 A_b8 (v := (.int a3)) 0 rfl rfl (g := (mkF m 355 #[.val (.int p0), .val (.int p1), .val (.int p2), .val (.int p3), .val (.int p4), .val (.long q5), .second, .val (.int x0), .val (.int nr), .val (.int y2), .val (.int z2), .val (.int km), .val (.int a3), .val (.int b3), .val (.int c2), sl169_l15, .val (.ref b8), .val (.int (2 : Int32)), .val (.ref b28), .val (.ref b31), .val (.ref bm), .val (.int c2), .unset, .unset] [(.int (0 : Int32)), (.ref b8), (.int (2 : Int32)), (.ref b8), (.ref bm)])) rfl rfl (hb hby at_355)) ?_
                    show OwnEnds p.tables e below _ (T33.setTop (mkF m 356 #[.val (.int p0), .val (.int p1), .val (.int p2), .val (.int p3), .val (.int p4), .val (.long q5), .second, .val (.int x0), .val (.int nr), .val (.int y2), .val (.int z2), .val (.int km), .val (.int a3), .val (.int b3), .val (.int c2), sl169_l15, .val (.ref b8), .val (.int (2 : Int32)), .val (.ref b28), .val (.ref b31), .val (.ref bm), .val (.int c2), .unset, .unset] [(.int a3), (.int (2 : Int32)), (.ref b8), (.ref bm)]))
                    refine own_via (fun t k => XS.bipush X33.here hx rfl (hb hby at_356) k) ?_
                    show OwnEnds p.tables e below _ (T33.setTop (mkF m 358 #[.val (.int p0), .val (.int p1), .val (.int p2), .val (.int p3), .val (.int p4), .val (.long q5), .second, .val (.int x0), .val (.int nr), .val (.int y2), .val (.int z2), .val (.int km), .val (.int a3), .val (.int b3), .val (.int c2), sl169_l15, .val (.ref b8), .val (.int (2 : Int32)), .val (.ref b28), .val (.ref b31), .val (.ref bm), .val (.int c2), .unset, .unset] [(.int (8 : Int32)), (.int a3), (.int (2 : Int32)), (.ref b8), (.ref bm)]))
                    refine own_via (fun t k => XS.idiv X33.here hx rfl (hb hby at_358) rfl (by decide) k) ?_
                    show OwnEnds p.tables e below _ (T33.setTop (mkF m 359 #[.val (.int p0), .val (.int p1), .val (.int p2), .val (.int p3), .val (.int p4), .val (.long q5), .second, .val (.int x0), .val (.int nr), .val (.int y2), .val (.int z2), .val (.int km), .val (.int a3), .val (.int b3), .val (.int c2), sl169_l15, .val (.ref b8), .val (.int (2 : Int32)), .val (.ref b28), .val (.ref b31), .val (.ref bm), .val (.int c2), .unset, .unset] [(.int (a3 / (8 : Int32))), (.int (2 : Int32)), (.ref b8), (.ref bm)]))
                    obtain ⟨_, _, ⟨T35, L35, k35, n35⟩, -, X35, ⟨Lc35, hQ35, l35, y35, z35⟩, st35⟩ := Jvm.LawKit.callS X33 hx (y := (⟨"com/example/crowd_cache/crowdcache/core/BucketToBitmapPinLaw", "checkAt", "([B[III)Z"⟩ : MethodName)) hown (mvT hZ (hw _ (List.mem_of_getElem? (i := 22) rfl))) (mvT hZ (hw _ (List.mem_of_getElem? (i := 23) rfl))) (mvT hZ (hw _ (List.mem_of_getElem? (i := 24) rfl))) (mvT hZ (hw _ (List.mem_of_getElem? (i := 25) rfl))) (by decide) (backOf (W := 0) (rm42 l Z aw hw [] bm b8 (a3 / (8 : Int32)) a3 c2 (0 : Int32) ((c2 / 8).toNatClampNeg + 1) ((a3 / (8 : Int32))).toNatClampNeg h33 n0 Zs_33 A_bm A_b8 (own_jd hr_a3 hr_c2 (Int.le_trans hab hbc)).1 (own_jd hr_a3 hr_c2 (Int.le_trans hab hbc)).2 hr_a3 hr_c2) hZ (hw _ (List.mem_of_getElem? (i := 25) rfl)) (hw _ (List.mem_of_getElem? (i := 24) rfl)) (by decide) (by decide)) (g := (mkF m 359 #[.val (.int p0), .val (.int p1), .val (.int p2), .val (.int p3), .val (.int p4), .val (.long q5), .second, .val (.int x0), .val (.int nr), .val (.int y2), .val (.int z2), .val (.int km), .val (.int a3), .val (.int b3), .val (.int c2), sl169_l15, .val (.ref b8), .val (.int (2 : Int32)), .val (.ref b28), .val (.ref b31), .val (.ref bm), .val (.int c2), .unset, .unset] [(.int (a3 / (8 : Int32))), (.int (2 : Int32)), (.ref b8), (.ref bm)])) rfl (by rw [hml]; rfl) (argsL := [(.ref bm), (.ref b8), (.int (2 : Int32)), (.int (a3 / (8 : Int32)))]) (rest := []) (lenOf pd_4 rfl) rfl (by show 2 * 0 + _ ≤ _; exact Nat.le_of_eq rfl) (hb hby at_359) (fun _ _ => ⟨rfl, e33, (by decide : 4 + 0 ≤ _), (by decide : 8199 + 0 ≤ _)⟩)
                    dsimp only [Pt.U, Pt.locs, Pt.cells, Pt.slots] at X35 l35 y35 z35 st35 hQ35
                    subst l35 y35 z35
                    obtain ⟨rfl, Nq35, e35⟩ := hQ35
                    have N35 := Fr.app N33 Nq35
                    replace e35 : T35.heap = h33 := e35
                    refine own_via st35 ?_
                    show OwnEnds p.tables e below _ (T35.setTop (mkF m 362 #[.val (.int p0), .val (.int p1), .val (.int p2), .val (.int p3), .val (.int p4), .val (.long q5), .second, .val (.int x0), .val (.int nr), .val (.int y2), .val (.int z2), .val (.int km), .val (.int a3), .val (.int b3), .val (.int c2), sl169_l15, .val (.ref b8), .val (.int (2 : Int32)), .val (.ref b28), .val (.ref b31), .val (.ref bm), .val (.int c2), .unset, .unset] [(.int (1 : Int32))]))
                    refine own_via (fun t k => XS.istore X35.here hx rfl (hb hby at_362) rfl (l' := #[.val (.int p0), .val (.int p1), .val (.int p2), .val (.int p3), .val (.int p4), .val (.long q5), .second, .val (.int x0), .val (.int nr), .val (.int y2), .val (.int z2), .val (.int km), .val (.int a3), .val (.int b3), .val (.int c2), sl169_l15, .val (.ref b8), .val (.int (2 : Int32)), .val (.ref b28), .val (.ref b31), .val (.ref bm), .val (.int c2), .val (.int (1 : Int32)), .unset]) rfl k) ?_
                    show OwnEnds p.tables e below _ (T35.setTop (mkF m 364 #[.val (.int p0), .val (.int p1), .val (.int p2), .val (.int p3), .val (.int p4), .val (.long q5), .second, .val (.int x0), .val (.int nr), .val (.int y2), .val (.int z2), .val (.int km), .val (.int a3), .val (.int b3), .val (.int c2), sl169_l15, .val (.ref b8), .val (.int (2 : Int32)), .val (.ref b28), .val (.ref b31), .val (.ref bm), .val (.int c2), .val (.int (1 : Int32)), .unset] []))
                    refine own_via (fun t k => XS.iload X35.here hx rfl (hb hby at_364) rfl k) ?_
                    show OwnEnds p.tables e below _ (T35.setTop (mkF m 366 #[.val (.int p0), .val (.int p1), .val (.int p2), .val (.int p3), .val (.int p4), .val (.long q5), .second, .val (.int x0), .val (.int nr), .val (.int y2), .val (.int z2), .val (.int km), .val (.int a3), .val (.int b3), .val (.int c2), sl169_l15, .val (.ref b8), .val (.int (2 : Int32)), .val (.ref b28), .val (.ref b31), .val (.ref bm), .val (.int c2), .val (.int (1 : Int32)), .unset] [(.int (2 : Int32))]))
                    refine own_via (fun t k => XS.iconst X35.here hx rfl (hb hby at_366) k) ?_
                    show OwnEnds p.tables e below _ (T35.setTop (mkF m 367 #[.val (.int p0), .val (.int p1), .val (.int p2), .val (.int p3), .val (.int p4), .val (.long q5), .second, .val (.int x0), .val (.int nr), .val (.int y2), .val (.int z2), .val (.int km), .val (.int a3), .val (.int b3), .val (.int c2), sl169_l15, .val (.ref b8), .val (.int (2 : Int32)), .val (.ref b28), .val (.ref b31), .val (.ref bm), .val (.int c2), .val (.int (1 : Int32)), .unset] [(.int (2 : Int32)), (.int (2 : Int32))]))
                    have hc367_36 : ¬ ((2 : Int32) < (2 : Int32)) := by decide
                    refine own_via (fun t k => XS.icmpNo X35.here hx rfl (hb hby at_367) rfl (flt hc367_36).1 k) ?_
                    show OwnEnds p.tables e below _ (T35.setTop (mkF m 370 #[.val (.int p0), .val (.int p1), .val (.int p2), .val (.int p3), .val (.int p4), .val (.long q5), .second, .val (.int x0), .val (.int nr), .val (.int y2), .val (.int z2), .val (.int km), .val (.int a3), .val (.int b3), .val (.int c2), sl169_l15, .val (.ref b8), .val (.int (2 : Int32)), .val (.ref b28), .val (.ref b31), .val (.ref bm), .val (.int c2), .val (.int (1 : Int32)), .unset] []))
                    refine own_via (fun t k => XS.iload X35.here hx rfl (hb hby at_370) rfl k) ?_
                    show OwnEnds p.tables e below _ (T35.setTop (mkF m 372 #[.val (.int p0), .val (.int p1), .val (.int p2), .val (.int p3), .val (.int p4), .val (.long q5), .second, .val (.int x0), .val (.int nr), .val (.int y2), .val (.int z2), .val (.int km), .val (.int a3), .val (.int b3), .val (.int c2), sl169_l15, .val (.ref b8), .val (.int (2 : Int32)), .val (.ref b28), .val (.ref b31), .val (.ref bm), .val (.int c2), .val (.int (1 : Int32)), .unset] [(.int (1 : Int32))]))
                    have hc372_37 : ¬ ((1 : Int32) = (0 : Int32)) := by decide
                    refine own_via (fun t k => XS.ifNo X35.here hx rfl (hb hby at_372) rfl ((if0 _ _).trans (feq hc372_37).1) k) ?_
                    show OwnEnds p.tables e below _ (T35.setTop (mkF m 375 #[.val (.int p0), .val (.int p1), .val (.int p2), .val (.int p3), .val (.int p4), .val (.long q5), .second, .val (.int x0), .val (.int nr), .val (.int y2), .val (.int z2), .val (.int km), .val (.int a3), .val (.int b3), .val (.int c2), sl169_l15, .val (.ref b8), .val (.int (2 : Int32)), .val (.ref b28), .val (.ref b31), .val (.ref bm), .val (.int c2), .val (.int (1 : Int32)), .unset] []))
                    refine own_via (fun t k => XS.aload X35.here hx rfl (hb hby at_375) rfl rfl k) ?_
                    show OwnEnds p.tables e below _ (T35.setTop (mkF m 377 #[.val (.int p0), .val (.int p1), .val (.int p2), .val (.int p3), .val (.int p4), .val (.long q5), .second, .val (.int x0), .val (.int nr), .val (.int y2), .val (.int z2), .val (.int km), .val (.int a3), .val (.int b3), .val (.int c2), sl169_l15, .val (.ref b8), .val (.int (2 : Int32)), .val (.ref b28), .val (.ref b31), .val (.ref bm), .val (.int c2), .val (.int (1 : Int32)), .unset] [(.ref bm)]))
                    refine own_via (fun t k => XS.aload X35.here hx rfl (hb hby at_377) rfl rfl k) ?_
                    show OwnEnds p.tables e below _ (T35.setTop (mkF m 379 #[.val (.int p0), .val (.int p1), .val (.int p2), .val (.int p3), .val (.int p4), .val (.long q5), .second, .val (.int x0), .val (.int nr), .val (.int y2), .val (.int z2), .val (.int km), .val (.int a3), .val (.int b3), .val (.int c2), sl169_l15, .val (.ref b8), .val (.int (2 : Int32)), .val (.ref b28), .val (.ref b31), .val (.ref bm), .val (.int c2), .val (.int (1 : Int32)), .unset] [(.ref b8), (.ref bm)]))
                    refine own_via (fun t k => XS.iload X35.here hx rfl (hb hby at_379) rfl k) ?_
                    show OwnEnds p.tables e below _ (T35.setTop (mkF m 381 #[.val (.int p0), .val (.int p1), .val (.int p2), .val (.int p3), .val (.int p4), .val (.long q5), .second, .val (.int x0), .val (.int nr), .val (.int y2), .val (.int z2), .val (.int km), .val (.int a3), .val (.int b3), .val (.int c2), sl169_l15, .val (.ref b8), .val (.int (2 : Int32)), .val (.ref b28), .val (.ref b31), .val (.ref bm), .val (.int c2), .val (.int (1 : Int32)), .unset] [(.int (2 : Int32)), (.ref b8), (.ref bm)]))
                    refine own_via (fun t k => XS.aload X35.here hx rfl (hb hby at_381) rfl rfl k) ?_
                    show OwnEnds p.tables e below _ (T35.setTop (mkF m 383 #[.val (.int p0), .val (.int p1), .val (.int p2), .val (.int p3), .val (.int p4), .val (.long q5), .second, .val (.int x0), .val (.int nr), .val (.int y2), .val (.int z2), .val (.int km), .val (.int a3), .val (.int b3), .val (.int c2), sl169_l15, .val (.ref b8), .val (.int (2 : Int32)), .val (.ref b28), .val (.ref b31), .val (.ref bm), .val (.int c2), .val (.int (1 : Int32)), .unset] [(.ref b8), (.int (2 : Int32)), (.ref b8), (.ref bm)]))
                    refine own_via (fun t k => XS.iconst X35.here hx rfl (hb hby at_383) k) ?_
                    show OwnEnds p.tables e below _ (T35.setTop (mkF m 384 #[.val (.int p0), .val (.int p1), .val (.int p2), .val (.int p3), .val (.int p4), .val (.long q5), .second, .val (.int x0), .val (.int nr), .val (.int y2), .val (.int z2), .val (.int km), .val (.int a3), .val (.int b3), .val (.int c2), sl169_l15, .val (.ref b8), .val (.int (2 : Int32)), .val (.ref b28), .val (.ref b31), .val (.ref bm), .val (.int c2), .val (.int (1 : Int32)), .unset] [(.int (1 : Int32)), (.ref b8), (.int (2 : Int32)), (.ref b8), (.ref bm)]))
                    refine own_via (own_ldI X35 hx hZ e35 A_b8 (v := (.int c2)) 1 rfl rfl (g := (mkF m 384 #[.val (.int p0), .val (.int p1), .val (.int p2), .val (.int p3), .val (.int p4), .val (.long q5), .second, .val (.int x0), .val (.int nr), .val (.int y2), .val (.int z2), .val (.int km), .val (.int a3), .val (.int b3), .val (.int c2), sl169_l15, .val (.ref b8), .val (.int (2 : Int32)), .val (.ref b28), .val (.ref b31), .val (.ref bm), .val (.int c2), .val (.int (1 : Int32)), .unset] [(.int (1 : Int32)), (.ref b8), (.int (2 : Int32)), (.ref b8), (.ref bm)])) rfl rfl (hb hby at_384)) ?_
                    show OwnEnds p.tables e below _ (T35.setTop (mkF m 385 #[.val (.int p0), .val (.int p1), .val (.int p2), .val (.int p3), .val (.int p4), .val (.long q5), .second, .val (.int x0), .val (.int nr), .val (.int y2), .val (.int z2), .val (.int km), .val (.int a3), .val (.int b3), .val (.int c2), sl169_l15, .val (.ref b8), .val (.int (2 : Int32)), .val (.ref b28), .val (.ref b31), .val (.ref bm), .val (.int c2), .val (.int (1 : Int32)), .unset] [(.int c2), (.int (2 : Int32)), (.ref b8), (.ref bm)]))
                    refine own_via (fun t k => XS.bipush X35.here hx rfl (hb hby at_385) k) ?_
                    show OwnEnds p.tables e below _ (T35.setTop (mkF m 387 #[.val (.int p0), .val (.int p1), .val (.int p2), .val (.int p3), .val (.int p4), .val (.long q5), .second, .val (.int x0), .val (.int nr), .val (.int y2), .val (.int z2), .val (.int km), .val (.int a3), .val (.int b3), .val (.int c2), sl169_l15, .val (.ref b8), .val (.int (2 : Int32)), .val (.ref b28), .val (.ref b31), .val (.ref bm), .val (.int c2), .val (.int (1 : Int32)), .unset] [(.int (8 : Int32)), (.int c2), (.int (2 : Int32)), (.ref b8), (.ref bm)]))
                    refine own_via (fun t k => XS.idiv X35.here hx rfl (hb hby at_387) rfl (by decide) k) ?_
                    show OwnEnds p.tables e below _ (T35.setTop (mkF m 388 #[.val (.int p0), .val (.int p1), .val (.int p2), .val (.int p3), .val (.int p4), .val (.long q5), .second, .val (.int x0), .val (.int nr), .val (.int y2), .val (.int z2), .val (.int km), .val (.int a3), .val (.int b3), .val (.int c2), sl169_l15, .val (.ref b8), .val (.int (2 : Int32)), .val (.ref b28), .val (.ref b31), .val (.ref bm), .val (.int c2), .val (.int (1 : Int32)), .unset] [(.int (c2 / (8 : Int32))), (.int (2 : Int32)), (.ref b8), (.ref bm)]))
                    obtain ⟨_, _, ⟨T38, L38, k38, n38⟩, -, X38, ⟨Lc38, hQ38, l38, y38, z38⟩, st38⟩ := Jvm.LawKit.callS X35 hx (y := (⟨"com/example/crowd_cache/crowdcache/core/BucketToBitmapPinLaw", "checkAt", "([B[III)Z"⟩ : MethodName)) hown (mvT hZ (hw _ (List.mem_of_getElem? (i := 22) rfl))) (mvT hZ (hw _ (List.mem_of_getElem? (i := 23) rfl))) (mvT hZ (hw _ (List.mem_of_getElem? (i := 24) rfl))) (mvT hZ (hw _ (List.mem_of_getElem? (i := 25) rfl))) (by decide) (backOf (W := 0) (rm42 l Z aw hw [] bm b8 (c2 / (8 : Int32)) a3 c2 (0 : Int32) ((c2 / 8).toNatClampNeg + 1) ((c2 / (8 : Int32))).toNatClampNeg h33 n0 Zs_33 A_bm A_b8 (own_jd hr_c2 hr_c2 (Int.le_refl _)).1 (own_jd hr_c2 hr_c2 (Int.le_refl _)).2 hr_a3 hr_c2) hZ (hw _ (List.mem_of_getElem? (i := 25) rfl)) (hw _ (List.mem_of_getElem? (i := 24) rfl)) (by decide) (by decide)) (g := (mkF m 388 #[.val (.int p0), .val (.int p1), .val (.int p2), .val (.int p3), .val (.int p4), .val (.long q5), .second, .val (.int x0), .val (.int nr), .val (.int y2), .val (.int z2), .val (.int km), .val (.int a3), .val (.int b3), .val (.int c2), sl169_l15, .val (.ref b8), .val (.int (2 : Int32)), .val (.ref b28), .val (.ref b31), .val (.ref bm), .val (.int c2), .val (.int (1 : Int32)), .unset] [(.int (c2 / (8 : Int32))), (.int (2 : Int32)), (.ref b8), (.ref bm)])) rfl (by rw [hml]; rfl) (argsL := [(.ref bm), (.ref b8), (.int (2 : Int32)), (.int (c2 / (8 : Int32)))]) (rest := []) (lenOf pd_4 rfl) rfl (by show 2 * 0 + _ ≤ _; exact Nat.le_of_eq rfl) (hb hby at_388) (fun _ _ => ⟨rfl, e35, (by decide : 4 + 0 ≤ _), (by decide : 8199 + 0 ≤ _)⟩)
                    dsimp only [Pt.U, Pt.locs, Pt.cells, Pt.slots] at X38 l38 y38 z38 st38 hQ38
                    subst l38 y38 z38
                    obtain ⟨rfl, Nq38, e38⟩ := hQ38
                    have N38 := Fr.app N35 Nq38
                    replace e38 : T38.heap = h33 := e38
                    refine own_via st38 ?_
                    show OwnEnds p.tables e below _ (T38.setTop (mkF m 391 #[.val (.int p0), .val (.int p1), .val (.int p2), .val (.int p3), .val (.int p4), .val (.long q5), .second, .val (.int x0), .val (.int nr), .val (.int y2), .val (.int z2), .val (.int km), .val (.int a3), .val (.int b3), .val (.int c2), sl169_l15, .val (.ref b8), .val (.int (2 : Int32)), .val (.ref b28), .val (.ref b31), .val (.ref bm), .val (.int c2), .val (.int (1 : Int32)), .unset] [(.int (1 : Int32))]))
                    have hc391_39 : ¬ ((1 : Int32) = (0 : Int32)) := by decide
                    refine own_via (fun t k => XS.ifNo X38.here hx rfl (hb hby at_391) rfl ((if0 _ _).trans (feq hc391_39).1) k) ?_
                    show OwnEnds p.tables e below _ (T38.setTop (mkF m 394 #[.val (.int p0), .val (.int p1), .val (.int p2), .val (.int p3), .val (.int p4), .val (.long q5), .second, .val (.int x0), .val (.int nr), .val (.int y2), .val (.int z2), .val (.int km), .val (.int a3), .val (.int b3), .val (.int c2), sl169_l15, .val (.ref b8), .val (.int (2 : Int32)), .val (.ref b28), .val (.ref b31), .val (.ref bm), .val (.int c2), .val (.int (1 : Int32)), .unset] []))
                    refine own_via (fun t k => XS.iconst X38.here hx rfl (hb hby at_394) k) ?_
                    show OwnEnds p.tables e below _ (T38.setTop (mkF m 395 #[.val (.int p0), .val (.int p1), .val (.int p2), .val (.int p3), .val (.int p4), .val (.long q5), .second, .val (.int x0), .val (.int nr), .val (.int y2), .val (.int z2), .val (.int km), .val (.int a3), .val (.int b3), .val (.int c2), sl169_l15, .val (.ref b8), .val (.int (2 : Int32)), .val (.ref b28), .val (.ref b31), .val (.ref bm), .val (.int c2), .val (.int (1 : Int32)), .unset] [(.int (1 : Int32))]))
                    refine own_via (fun t k => XS.goto X38.here hx rfl (pc0 := 395) (pc' := 399) rfl (hb hby at_395) (by decide) (by decide) k) ?_
                    show OwnEnds p.tables e below _ (T38.setTop (mkF m 399 #[.val (.int p0), .val (.int p1), .val (.int p2), .val (.int p3), .val (.int p4), .val (.long q5), .second, .val (.int x0), .val (.int nr), .val (.int y2), .val (.int z2), .val (.int km), .val (.int a3), .val (.int b3), .val (.int c2), sl169_l15, .val (.ref b8), .val (.int (2 : Int32)), .val (.ref b28), .val (.ref b31), .val (.ref bm), .val (.int c2), .val (.int (1 : Int32)), .unset] [(.int (1 : Int32))]))
                    refine own_via (fun t k => XS.istore X38.here hx rfl (hb hby at_399) rfl (l' := #[.val (.int p0), .val (.int p1), .val (.int p2), .val (.int p3), .val (.int p4), .val (.long q5), .second, .val (.int x0), .val (.int nr), .val (.int y2), .val (.int z2), .val (.int km), .val (.int a3), .val (.int b3), .val (.int c2), sl169_l15, .val (.ref b8), .val (.int (2 : Int32)), .val (.ref b28), .val (.ref b31), .val (.ref bm), .val (.int c2), .val (.int (1 : Int32)), .unset]) rfl k) ?_
                    show OwnEnds p.tables e below _ (T38.setTop (mkF m 401 #[.val (.int p0), .val (.int p1), .val (.int p2), .val (.int p3), .val (.int p4), .val (.long q5), .second, .val (.int x0), .val (.int nr), .val (.int y2), .val (.int z2), .val (.int km), .val (.int a3), .val (.int b3), .val (.int c2), sl169_l15, .val (.ref b8), .val (.int (2 : Int32)), .val (.ref b28), .val (.ref b31), .val (.ref bm), .val (.int c2), .val (.int (1 : Int32)), .unset] []))
                    refine own_via (fun t k => XS.iload X38.here hx rfl (hb hby at_401) rfl k) ?_
                    show OwnEnds p.tables e below _ (T38.setTop (mkF m 403 #[.val (.int p0), .val (.int p1), .val (.int p2), .val (.int p3), .val (.int p4), .val (.long q5), .second, .val (.int x0), .val (.int nr), .val (.int y2), .val (.int z2), .val (.int km), .val (.int a3), .val (.int b3), .val (.int c2), sl169_l15, .val (.ref b8), .val (.int (2 : Int32)), .val (.ref b28), .val (.ref b31), .val (.ref bm), .val (.int c2), .val (.int (1 : Int32)), .unset] [(.int (2 : Int32))]))
                    refine own_via (fun t k => XS.iconst X38.here hx rfl (hb hby at_403) k) ?_
                    show OwnEnds p.tables e below _ (T38.setTop (mkF m 404 #[.val (.int p0), .val (.int p1), .val (.int p2), .val (.int p3), .val (.int p4), .val (.long q5), .second, .val (.int x0), .val (.int nr), .val (.int y2), .val (.int z2), .val (.int km), .val (.int a3), .val (.int b3), .val (.int c2), sl169_l15, .val (.ref b8), .val (.int (2 : Int32)), .val (.ref b28), .val (.ref b31), .val (.ref bm), .val (.int c2), .val (.int (1 : Int32)), .unset] [(.int (3 : Int32)), (.int (2 : Int32))]))
                    have hc404_40 : (2 : Int32) < (3 : Int32) := by decide
                    refine own_via (fun t k => XS.icmpYes X38.here hx rfl (pc0 := 404) (pc' := 438) rfl (hb hby at_404) rfl (tlt hc404_40).1 (by decide) (by decide) k) ?_
                    show OwnEnds p.tables e below _ (T38.setTop (mkF m 438 #[.val (.int p0), .val (.int p1), .val (.int p2), .val (.int p3), .val (.int p4), .val (.long q5), .second, .val (.int x0), .val (.int nr), .val (.int y2), .val (.int z2), .val (.int km), .val (.int a3), .val (.int b3), .val (.int c2), sl169_l15, .val (.ref b8), .val (.int (2 : Int32)), .val (.ref b28), .val (.ref b31), .val (.ref bm), .val (.int c2), .val (.int (1 : Int32)), .unset] []))
                    refine own_via (fun t k => XS.iload X38.here hx rfl (hb hby at_438) rfl k) ?_
                    show OwnEnds p.tables e below _ (T38.setTop (mkF m 440 #[.val (.int p0), .val (.int p1), .val (.int p2), .val (.int p3), .val (.int p4), .val (.long q5), .second, .val (.int x0), .val (.int nr), .val (.int y2), .val (.int z2), .val (.int km), .val (.int a3), .val (.int b3), .val (.int c2), sl169_l15, .val (.ref b8), .val (.int (2 : Int32)), .val (.ref b28), .val (.ref b31), .val (.ref bm), .val (.int c2), .val (.int (1 : Int32)), .unset] [(.int p4)]))
                    refine own_via (X38.ldcInt hx hown (mvT hZ (hw _ (List.mem_of_getElem? (i := 32) rfl))) (g := (mkF m 440 #[.val (.int p0), .val (.int p1), .val (.int p2), .val (.int p3), .val (.int p4), .val (.long q5), .second, .val (.int x0), .val (.int nr), .val (.int y2), .val (.int z2), .val (.int km), .val (.int a3), .val (.int b3), .val (.int c2), sl169_l15, .val (.ref b8), .val (.int (2 : Int32)), .val (.ref b28), .val (.ref b31), .val (.ref bm), .val (.int c2), .val (.int (1 : Int32)), .unset] [(.int p4)])) rfl (hb hby at_440)) ?_
                    show OwnEnds p.tables e below _ (T38.setTop (mkF m 442 #[.val (.int p0), .val (.int p1), .val (.int p2), .val (.int p3), .val (.int p4), .val (.long q5), .second, .val (.int x0), .val (.int nr), .val (.int y2), .val (.int z2), .val (.int km), .val (.int a3), .val (.int b3), .val (.int c2), sl169_l15, .val (.ref b8), .val (.int (2 : Int32)), .val (.ref b28), .val (.ref b31), .val (.ref bm), .val (.int c2), .val (.int (1 : Int32)), .unset] [(.int (2147483647 : Int32)), (.int p4)]))
                    refine own_via (fun t k => XS.iand X38.here hx rfl (hb hby at_442) rfl k) ?_
                    show OwnEnds p.tables e below _ (T38.setTop (mkF m 443 #[.val (.int p0), .val (.int p1), .val (.int p2), .val (.int p3), .val (.int p4), .val (.long q5), .second, .val (.int x0), .val (.int nr), .val (.int y2), .val (.int z2), .val (.int km), .val (.int a3), .val (.int b3), .val (.int c2), sl169_l15, .val (.ref b8), .val (.int (2 : Int32)), .val (.ref b28), .val (.ref b31), .val (.ref bm), .val (.int c2), .val (.int (1 : Int32)), .unset] [(.int (p4 &&& (2147483647 : Int32)))]))
                    refine own_via (fun t k => XS.aload X38.here hx rfl (hb hby at_443) rfl rfl k) ?_
                    show OwnEnds p.tables e below _ (T38.setTop (mkF m 445 #[.val (.int p0), .val (.int p1), .val (.int p2), .val (.int p3), .val (.int p4), .val (.long q5), .second, .val (.int x0), .val (.int nr), .val (.int y2), .val (.int z2), .val (.int km), .val (.int a3), .val (.int b3), .val (.int c2), sl169_l15, .val (.ref b8), .val (.int (2 : Int32)), .val (.ref b28), .val (.ref b31), .val (.ref bm), .val (.int c2), .val (.int (1 : Int32)), .unset] [(.ref bm), (.int (p4 &&& (2147483647 : Int32)))]))
                    refine own_via (own_len X38 hx hZ e38 A_bm (z := ((c2 / (8 : Int32)) + (1 : Int32))) (by rw [own_bll]; exact (own_tl hr_c2).1) (g := (mkF m 445 #[.val (.int p0), .val (.int p1), .val (.int p2), .val (.int p3), .val (.int p4), .val (.long q5), .second, .val (.int x0), .val (.int nr), .val (.int y2), .val (.int z2), .val (.int km), .val (.int a3), .val (.int b3), .val (.int c2), sl169_l15, .val (.ref b8), .val (.int (2 : Int32)), .val (.ref b28), .val (.ref b31), .val (.ref bm), .val (.int c2), .val (.int (1 : Int32)), .unset] [(.ref bm), (.int (p4 &&& (2147483647 : Int32)))])) rfl rfl (hb hby at_445)) ?_
                    show OwnEnds p.tables e below _ (T38.setTop (mkF m 446 #[.val (.int p0), .val (.int p1), .val (.int p2), .val (.int p3), .val (.int p4), .val (.long q5), .second, .val (.int x0), .val (.int nr), .val (.int y2), .val (.int z2), .val (.int km), .val (.int a3), .val (.int b3), .val (.int c2), sl169_l15, .val (.ref b8), .val (.int (2 : Int32)), .val (.ref b28), .val (.ref b31), .val (.ref bm), .val (.int c2), .val (.int (1 : Int32)), .unset] [(.int ((c2 / (8 : Int32)) + (1 : Int32))), (.int (p4 &&& (2147483647 : Int32)))]))
                    refine own_via (fun t k => Jvm.RoadKit.iremM X38 hx rfl (hb hby at_446) rfl (own_nz hr_c2) k) ?_
                    show OwnEnds p.tables e below _ (T38.setTop (mkF m 447 #[.val (.int p0), .val (.int p1), .val (.int p2), .val (.int p3), .val (.int p4), .val (.long q5), .second, .val (.int x0), .val (.int nr), .val (.int y2), .val (.int z2), .val (.int km), .val (.int a3), .val (.int b3), .val (.int c2), sl169_l15, .val (.ref b8), .val (.int (2 : Int32)), .val (.ref b28), .val (.ref b31), .val (.ref bm), .val (.int c2), .val (.int (1 : Int32)), .unset] [(.int ((p4 &&& (2147483647 : Int32)) % ((c2 / (8 : Int32)) + (1 : Int32))))]))
                    obtain ⟨jj, h_jj⟩ : ∃ z, z = ((p4 &&& (2147483647 : Int32)) % ((c2 / (8 : Int32)) + (1 : Int32))) := ⟨_, rfl⟩
                    rw [← h_jj]
                    refine own_via (fun t k => XS.istore X38.here hx rfl (hb hby at_447) rfl (l' := #[.val (.int p0), .val (.int p1), .val (.int p2), .val (.int p3), .val (.int p4), .val (.long q5), .second, .val (.int x0), .val (.int nr), .val (.int y2), .val (.int z2), .val (.int km), .val (.int a3), .val (.int b3), .val (.int c2), sl169_l15, .val (.ref b8), .val (.int (2 : Int32)), .val (.ref b28), .val (.ref b31), .val (.ref bm), .val (.int c2), .val (.int (1 : Int32)), .val (.int jj)]) rfl k) ?_
                    show OwnEnds p.tables e below _ (T38.setTop (mkF m 449 #[.val (.int p0), .val (.int p1), .val (.int p2), .val (.int p3), .val (.int p4), .val (.long q5), .second, .val (.int x0), .val (.int nr), .val (.int y2), .val (.int z2), .val (.int km), .val (.int a3), .val (.int b3), .val (.int c2), sl169_l15, .val (.ref b8), .val (.int (2 : Int32)), .val (.ref b28), .val (.ref b31), .val (.ref bm), .val (.int c2), .val (.int (1 : Int32)), .val (.int jj)] []))
                    refine own_via (fun t k => XS.iload X38.here hx rfl (hb hby at_449) rfl k) ?_
                    show OwnEnds p.tables e below _ (T38.setTop (mkF m 451 #[.val (.int p0), .val (.int p1), .val (.int p2), .val (.int p3), .val (.int p4), .val (.long q5), .second, .val (.int x0), .val (.int nr), .val (.int y2), .val (.int z2), .val (.int km), .val (.int a3), .val (.int b3), .val (.int c2), sl169_l15, .val (.ref b8), .val (.int (2 : Int32)), .val (.ref b28), .val (.ref b31), .val (.ref bm), .val (.int c2), .val (.int (1 : Int32)), .val (.int jj)] [(.int (1 : Int32))]))
                    have hc451_41 : ¬ ((1 : Int32) = (0 : Int32)) := by decide
                    refine own_via (fun t k => XS.ifNo X38.here hx rfl (hb hby at_451) rfl ((if0 _ _).trans (feq hc451_41).1) k) ?_
                    show OwnEnds p.tables e below _ (T38.setTop (mkF m 454 #[.val (.int p0), .val (.int p1), .val (.int p2), .val (.int p3), .val (.int p4), .val (.long q5), .second, .val (.int x0), .val (.int nr), .val (.int y2), .val (.int z2), .val (.int km), .val (.int a3), .val (.int b3), .val (.int c2), sl169_l15, .val (.ref b8), .val (.int (2 : Int32)), .val (.ref b28), .val (.ref b31), .val (.ref bm), .val (.int c2), .val (.int (1 : Int32)), .val (.int jj)] []))
                    refine own_via (fun t k => XS.aload X38.here hx rfl (hb hby at_454) rfl rfl k) ?_
                    show OwnEnds p.tables e below _ (T38.setTop (mkF m 456 #[.val (.int p0), .val (.int p1), .val (.int p2), .val (.int p3), .val (.int p4), .val (.long q5), .second, .val (.int x0), .val (.int nr), .val (.int y2), .val (.int z2), .val (.int km), .val (.int a3), .val (.int b3), .val (.int c2), sl169_l15, .val (.ref b8), .val (.int (2 : Int32)), .val (.ref b28), .val (.ref b31), .val (.ref bm), .val (.int c2), .val (.int (1 : Int32)), .val (.int jj)] [(.ref bm)]))
                    refine own_via (fun t k => XS.aload X38.here hx rfl (hb hby at_456) rfl rfl k) ?_
                    show OwnEnds p.tables e below _ (T38.setTop (mkF m 458 #[.val (.int p0), .val (.int p1), .val (.int p2), .val (.int p3), .val (.int p4), .val (.long q5), .second, .val (.int x0), .val (.int nr), .val (.int y2), .val (.int z2), .val (.int km), .val (.int a3), .val (.int b3), .val (.int c2), sl169_l15, .val (.ref b8), .val (.int (2 : Int32)), .val (.ref b28), .val (.ref b31), .val (.ref bm), .val (.int c2), .val (.int (1 : Int32)), .val (.int jj)] [(.ref b8), (.ref bm)]))
                    refine own_via (fun t k => XS.iload X38.here hx rfl (hb hby at_458) rfl k) ?_
                    show OwnEnds p.tables e below _ (T38.setTop (mkF m 460 #[.val (.int p0), .val (.int p1), .val (.int p2), .val (.int p3), .val (.int p4), .val (.long q5), .second, .val (.int x0), .val (.int nr), .val (.int y2), .val (.int z2), .val (.int km), .val (.int a3), .val (.int b3), .val (.int c2), sl169_l15, .val (.ref b8), .val (.int (2 : Int32)), .val (.ref b28), .val (.ref b31), .val (.ref bm), .val (.int c2), .val (.int (1 : Int32)), .val (.int jj)] [(.int (2 : Int32)), (.ref b8), (.ref bm)]))
                    refine own_via (fun t k => XS.iload X38.here hx rfl (hb hby at_460) rfl k) ?_
                    show OwnEnds p.tables e below _ (T38.setTop (mkF m 462 #[.val (.int p0), .val (.int p1), .val (.int p2), .val (.int p3), .val (.int p4), .val (.long q5), .second, .val (.int x0), .val (.int nr), .val (.int y2), .val (.int z2), .val (.int km), .val (.int a3), .val (.int b3), .val (.int c2), sl169_l15, .val (.ref b8), .val (.int (2 : Int32)), .val (.ref b28), .val (.ref b31), .val (.ref bm), .val (.int c2), .val (.int (1 : Int32)), .val (.int jj)] [(.int jj), (.int (2 : Int32)), (.ref b8), (.ref bm)]))
                    obtain ⟨_, _, ⟨T42, L42, k42, n42⟩, -, X42, ⟨Lc42, hQ42, l42, y42, z42⟩, st42⟩ := Jvm.LawKit.callS X38 hx (y := (⟨"com/example/crowd_cache/crowdcache/core/BucketToBitmapPinLaw", "checkAt", "([B[III)Z"⟩ : MethodName)) hown (mvT hZ (hw _ (List.mem_of_getElem? (i := 22) rfl))) (mvT hZ (hw _ (List.mem_of_getElem? (i := 23) rfl))) (mvT hZ (hw _ (List.mem_of_getElem? (i := 24) rfl))) (mvT hZ (hw _ (List.mem_of_getElem? (i := 25) rfl))) (by decide) (backOf (W := 0) (rm42 l Z aw hw [] bm b8 jj a3 c2 (0 : Int32) ((c2 / 8).toNatClampNeg + 1) (jj).toNatClampNeg h33 n0 Zs_33 A_bm A_b8 (own_jj hr_c2 h_jj).1 (own_jj hr_c2 h_jj).2 hr_a3 hr_c2) hZ (hw _ (List.mem_of_getElem? (i := 25) rfl)) (hw _ (List.mem_of_getElem? (i := 24) rfl)) (by decide) (by decide)) (g := (mkF m 462 #[.val (.int p0), .val (.int p1), .val (.int p2), .val (.int p3), .val (.int p4), .val (.long q5), .second, .val (.int x0), .val (.int nr), .val (.int y2), .val (.int z2), .val (.int km), .val (.int a3), .val (.int b3), .val (.int c2), sl169_l15, .val (.ref b8), .val (.int (2 : Int32)), .val (.ref b28), .val (.ref b31), .val (.ref bm), .val (.int c2), .val (.int (1 : Int32)), .val (.int jj)] [(.int jj), (.int (2 : Int32)), (.ref b8), (.ref bm)])) rfl (by rw [hml]; rfl) (argsL := [(.ref bm), (.ref b8), (.int (2 : Int32)), (.int jj)]) (rest := []) (lenOf pd_4 rfl) rfl (by show 2 * 0 + _ ≤ _; exact Nat.le_of_eq rfl) (hb hby at_462) (fun _ _ => ⟨rfl, e38, (by decide : 4 + 0 ≤ _), (by decide : 8199 + 0 ≤ _)⟩)
                    dsimp only [Pt.U, Pt.locs, Pt.cells, Pt.slots] at X42 l42 y42 z42 st42 hQ42
                    subst l42 y42 z42
                    obtain ⟨rfl, Nq42, e42⟩ := hQ42
                    have N42 := Fr.app N38 Nq42
                    replace e42 : T42.heap = h33 := e42
                    refine own_via st42 ?_
                    show OwnEnds p.tables e below _ (T42.setTop (mkF m 465 #[.val (.int p0), .val (.int p1), .val (.int p2), .val (.int p3), .val (.int p4), .val (.long q5), .second, .val (.int x0), .val (.int nr), .val (.int y2), .val (.int z2), .val (.int km), .val (.int a3), .val (.int b3), .val (.int c2), sl169_l15, .val (.ref b8), .val (.int (2 : Int32)), .val (.ref b28), .val (.ref b31), .val (.ref bm), .val (.int c2), .val (.int (1 : Int32)), .val (.int jj)] [(.int (1 : Int32))]))
                    have hc465_43 : ¬ ((1 : Int32) = (0 : Int32)) := by decide
                    refine own_via (fun t k => XS.ifNo X42.here hx rfl (hb hby at_465) rfl ((if0 _ _).trans (feq hc465_43).1) k) ?_
                    show OwnEnds p.tables e below _ (T42.setTop (mkF m 468 #[.val (.int p0), .val (.int p1), .val (.int p2), .val (.int p3), .val (.int p4), .val (.long q5), .second, .val (.int x0), .val (.int nr), .val (.int y2), .val (.int z2), .val (.int km), .val (.int a3), .val (.int b3), .val (.int c2), sl169_l15, .val (.ref b8), .val (.int (2 : Int32)), .val (.ref b28), .val (.ref b31), .val (.ref bm), .val (.int c2), .val (.int (1 : Int32)), .val (.int jj)] []))
                    refine own_via (fun t k => XS.iconst X42.here hx rfl (hb hby at_468) k) ?_
                    show OwnEnds p.tables e below _ (T42.setTop (mkF m 469 #[.val (.int p0), .val (.int p1), .val (.int p2), .val (.int p3), .val (.int p4), .val (.long q5), .second, .val (.int x0), .val (.int nr), .val (.int y2), .val (.int z2), .val (.int km), .val (.int a3), .val (.int b3), .val (.int c2), sl169_l15, .val (.ref b8), .val (.int (2 : Int32)), .val (.ref b28), .val (.ref b31), .val (.ref bm), .val (.int c2), .val (.int (1 : Int32)), .val (.int jj)] [(.int (1 : Int32))]))
                    refine own_via (fun t k => XS.goto X42.here hx rfl (pc0 := 469) (pc' := 473) rfl (hb hby at_469) (by decide) (by decide) k) ?_
                    show OwnEnds p.tables e below _ (T42.setTop (mkF m 473 #[.val (.int p0), .val (.int p1), .val (.int p2), .val (.int p3), .val (.int p4), .val (.long q5), .second, .val (.int x0), .val (.int nr), .val (.int y2), .val (.int z2), .val (.int km), .val (.int a3), .val (.int b3), .val (.int c2), sl169_l15, .val (.ref b8), .val (.int (2 : Int32)), .val (.ref b28), .val (.ref b31), .val (.ref bm), .val (.int c2), .val (.int (1 : Int32)), .val (.int jj)] [(.int (1 : Int32))]))
                    refine own_via (fun t k => XS.istore X42.here hx rfl (hb hby at_473) rfl (l' := #[.val (.int p0), .val (.int p1), .val (.int p2), .val (.int p3), .val (.int p4), .val (.long q5), .second, .val (.int x0), .val (.int nr), .val (.int y2), .val (.int z2), .val (.int km), .val (.int a3), .val (.int b3), .val (.int c2), sl169_l15, .val (.ref b8), .val (.int (2 : Int32)), .val (.ref b28), .val (.ref b31), .val (.ref bm), .val (.int c2), .val (.int (1 : Int32)), .val (.int jj)]) rfl k) ?_
                    show OwnEnds p.tables e below _ (T42.setTop (mkF m 475 #[.val (.int p0), .val (.int p1), .val (.int p2), .val (.int p3), .val (.int p4), .val (.long q5), .second, .val (.int x0), .val (.int nr), .val (.int y2), .val (.int z2), .val (.int km), .val (.int a3), .val (.int b3), .val (.int c2), sl169_l15, .val (.ref b8), .val (.int (2 : Int32)), .val (.ref b28), .val (.ref b31), .val (.ref bm), .val (.int c2), .val (.int (1 : Int32)), .val (.int jj)] []))
                    refine own_via (fun t k => XS.iload X42.here hx rfl (hb hby at_475) rfl k) ?_
                    show OwnEnds p.tables e below _ (T42.setTop (mkF m 477 #[.val (.int p0), .val (.int p1), .val (.int p2), .val (.int p3), .val (.int p4), .val (.long q5), .second, .val (.int x0), .val (.int nr), .val (.int y2), .val (.int z2), .val (.int km), .val (.int a3), .val (.int b3), .val (.int c2), sl169_l15, .val (.ref b8), .val (.int (2 : Int32)), .val (.ref b28), .val (.ref b31), .val (.ref bm), .val (.int c2), .val (.int (1 : Int32)), .val (.int jj)] [(.int (1 : Int32))]))
                    refine own_retN (t := .boolean) X42 hx Bd.returns (by simp) hlk (hb hby at_477) ?_ (by decide) (by decide)
                    rw [e42]
                    exact ⟨rfl, N42⟩
                · skip
                  refine own_via (fun t k => XS.icmpNo X9.here hx rfl (hb hby at_187) rfl (feq hc187_10).1 k) ?_
                  show OwnEnds p.tables e below _ (T9.setTop (mkF m 190 #[.val (.int p0), .val (.int p1), .val (.int p2), .val (.int p3), .val (.int p4), .val (.long q5), .second, .val (.int x0), .val (.int nr), .val (.int y2), .val (.int z2), .val (.int km), .val (.int a3), .val (.int b3), .val (.int c2), sl169_l15, .val (.ref b8), .val (.int (1 : Int32)), .unset, .unset, .unset, .unset, .unset, .unset] []))
                  refine own_via (fun t k => XS.aload X9.here hx rfl (hb hby at_190) rfl rfl k) ?_
                  show OwnEnds p.tables e below _ (T9.setTop (mkF m 192 #[.val (.int p0), .val (.int p1), .val (.int p2), .val (.int p3), .val (.int p4), .val (.long q5), .second, .val (.int x0), .val (.int nr), .val (.int y2), .val (.int z2), .val (.int km), .val (.int a3), .val (.int b3), .val (.int c2), sl169_l15, .val (.ref b8), .val (.int (1 : Int32)), .unset, .unset, .unset, .unset, .unset, .unset] [(.ref b8)]))
                  refine own_via (fun t k => XS.iload X9.here hx rfl (hb hby at_192) rfl k) ?_
                  show OwnEnds p.tables e below _ (T9.setTop (mkF m 194 #[.val (.int p0), .val (.int p1), .val (.int p2), .val (.int p3), .val (.int p4), .val (.long q5), .second, .val (.int x0), .val (.int nr), .val (.int y2), .val (.int z2), .val (.int km), .val (.int a3), .val (.int b3), .val (.int c2), sl169_l15, .val (.ref b8), .val (.int (1 : Int32)), .unset, .unset, .unset, .unset, .unset, .unset] [(.int (1 : Int32)), (.ref b8)]))
                  refine own_via (fun t k => XS.iload X9.here hx rfl (hb hby at_194) rfl k) ?_
                  show OwnEnds p.tables e below _ (T9.setTop (mkF m 196 #[.val (.int p0), .val (.int p1), .val (.int p2), .val (.int p3), .val (.int p4), .val (.long q5), .second, .val (.int x0), .val (.int nr), .val (.int y2), .val (.int z2), .val (.int km), .val (.int a3), .val (.int b3), .val (.int c2), sl169_l15, .val (.ref b8), .val (.int (1 : Int32)), .unset, .unset, .unset, .unset, .unset, .unset] [(.int b3), (.int (1 : Int32)), (.ref b8)]))
                  obtain ⟨T44, h44, X44, e44, W44, AA44, st44⟩ := own_stI X9 hx hZ e9 A_b8 1 rfl (Nat.le_of_ble_eq_true rfl) (g := (mkF m 196 #[.val (.int p0), .val (.int p1), .val (.int p2), .val (.int p3), .val (.int p4), .val (.long q5), .second, .val (.int x0), .val (.int nr), .val (.int y2), .val (.int z2), .val (.int km), .val (.int a3), .val (.int b3), .val (.int c2), sl169_l15, .val (.ref b8), .val (.int (1 : Int32)), .unset, .unset, .unset, .unset, .unset, .unset] [(.int b3), (.int (1 : Int32)), (.ref b8)])) rfl rfl (hb hby at_196)
                  have Zs_W44 : n0 ≤ _ := Nat.le_trans Zs_W9 (Keep.of_wr W44).1
                  replace A_b8 : AL Z h44 b8 .int [(.int a3), (.int b3), (.int (0 : Int32))] := AA44
                  have N44 := Fr.snoc X44 N9 g_b8
                  refine own_via st44 ?_
                  show OwnEnds p.tables e below _ (T44.setTop (mkF m 197 #[.val (.int p0), .val (.int p1), .val (.int p2), .val (.int p3), .val (.int p4), .val (.long q5), .second, .val (.int x0), .val (.int nr), .val (.int y2), .val (.int z2), .val (.int km), .val (.int a3), .val (.int b3), .val (.int c2), sl169_l15, .val (.ref b8), .val (.int (1 : Int32)), .unset, .unset, .unset, .unset, .unset, .unset] []))
                  refine own_via (fun t k => XS.iload X44.here hx rfl (hb hby at_197) rfl k) ?_
                  show OwnEnds p.tables e below _ (T44.setTop (mkF m 199 #[.val (.int p0), .val (.int p1), .val (.int p2), .val (.int p3), .val (.int p4), .val (.long q5), .second, .val (.int x0), .val (.int nr), .val (.int y2), .val (.int z2), .val (.int km), .val (.int a3), .val (.int b3), .val (.int c2), sl169_l15, .val (.ref b8), .val (.int (1 : Int32)), .unset, .unset, .unset, .unset, .unset, .unset] [(.int (1 : Int32))]))
                  refine own_via (fun t k => XS.iconst X44.here hx rfl (hb hby at_199) k) ?_
                  show OwnEnds p.tables e below _ (T44.setTop (mkF m 200 #[.val (.int p0), .val (.int p1), .val (.int p2), .val (.int p3), .val (.int p4), .val (.long q5), .second, .val (.int x0), .val (.int nr), .val (.int y2), .val (.int z2), .val (.int km), .val (.int a3), .val (.int b3), .val (.int c2), sl169_l15, .val (.ref b8), .val (.int (1 : Int32)), .unset, .unset, .unset, .unset, .unset, .unset] [(.int (1 : Int32)), (.int (1 : Int32))]))
                  refine own_via (fun t k => XS.iadd X44.here hx rfl (hb hby at_200) rfl k) ?_
                  show OwnEnds p.tables e below _ (T44.setTop (mkF m 201 #[.val (.int p0), .val (.int p1), .val (.int p2), .val (.int p3), .val (.int p4), .val (.long q5), .second, .val (.int x0), .val (.int nr), .val (.int y2), .val (.int z2), .val (.int km), .val (.int a3), .val (.int b3), .val (.int c2), sl169_l15, .val (.ref b8), .val (.int (1 : Int32)), .unset, .unset, .unset, .unset, .unset, .unset] [(.int (2 : Int32))]))
                  refine own_via (fun t k => XS.istore X44.here hx rfl (hb hby at_201) rfl (l' := #[.val (.int p0), .val (.int p1), .val (.int p2), .val (.int p3), .val (.int p4), .val (.long q5), .second, .val (.int x0), .val (.int nr), .val (.int y2), .val (.int z2), .val (.int km), .val (.int a3), .val (.int b3), .val (.int c2), sl169_l15, .val (.ref b8), .val (.int (2 : Int32)), .unset, .unset, .unset, .unset, .unset, .unset]) rfl k) ?_
                  show OwnEnds p.tables e below _ (T44.setTop (mkF m 203 #[.val (.int p0), .val (.int p1), .val (.int p2), .val (.int p3), .val (.int p4), .val (.long q5), .second, .val (.int x0), .val (.int nr), .val (.int y2), .val (.int z2), .val (.int km), .val (.int a3), .val (.int b3), .val (.int c2), sl169_l15, .val (.ref b8), .val (.int (2 : Int32)), .unset, .unset, .unset, .unset, .unset, .unset] []))
                  refine own_via (fun t k => XS.iload X44.here hx rfl (hb hby at_203) rfl k) ?_
                  show OwnEnds p.tables e below _ (T44.setTop (mkF m 205 #[.val (.int p0), .val (.int p1), .val (.int p2), .val (.int p3), .val (.int p4), .val (.long q5), .second, .val (.int x0), .val (.int nr), .val (.int y2), .val (.int z2), .val (.int km), .val (.int a3), .val (.int b3), .val (.int c2), sl169_l15, .val (.ref b8), .val (.int (2 : Int32)), .unset, .unset, .unset, .unset, .unset, .unset] [(.int c2)]))
                  refine own_via (fun t k => XS.iload X44.here hx rfl (hb hby at_205) rfl k) ?_
                  show OwnEnds p.tables e below _ (T44.setTop (mkF m 207 #[.val (.int p0), .val (.int p1), .val (.int p2), .val (.int p3), .val (.int p4), .val (.long q5), .second, .val (.int x0), .val (.int nr), .val (.int y2), .val (.int z2), .val (.int km), .val (.int a3), .val (.int b3), .val (.int c2), sl169_l15, .val (.ref b8), .val (.int (2 : Int32)), .unset, .unset, .unset, .unset, .unset, .unset] [(.int b3), (.int c2)]))
                  by_cases hc207_45 : c2 = b3
                  · skip
                    refine own_via (fun t k => XS.icmpYes X44.here hx rfl (pc0 := 207) (pc' := 223) rfl (hb hby at_207) rfl (teq hc207_45).1 (by decide) (by decide) k) ?_
                    show OwnEnds p.tables e below _ (T44.setTop (mkF m 223 #[.val (.int p0), .val (.int p1), .val (.int p2), .val (.int p3), .val (.int p4), .val (.long q5), .second, .val (.int x0), .val (.int nr), .val (.int y2), .val (.int z2), .val (.int km), .val (.int a3), .val (.int b3), .val (.int c2), sl169_l15, .val (.ref b8), .val (.int (2 : Int32)), .unset, .unset, .unset, .unset, .unset, .unset] []))
                    refine own_via (fun t k => XS.iload X44.here hx rfl (hb hby at_223) rfl k) ?_
                    show OwnEnds p.tables e below _ (T44.setTop (mkF m 225 #[.val (.int p0), .val (.int p1), .val (.int p2), .val (.int p3), .val (.int p4), .val (.long q5), .second, .val (.int x0), .val (.int nr), .val (.int y2), .val (.int z2), .val (.int km), .val (.int a3), .val (.int b3), .val (.int c2), sl169_l15, .val (.ref b8), .val (.int (2 : Int32)), .unset, .unset, .unset, .unset, .unset, .unset] [(.int (2 : Int32))]))
                    refine own_via (fun t k => XS.iconst X44.here hx rfl (hb hby at_225) k) ?_
                    show OwnEnds p.tables e below _ (T44.setTop (mkF m 226 #[.val (.int p0), .val (.int p1), .val (.int p2), .val (.int p3), .val (.int p4), .val (.long q5), .second, .val (.int x0), .val (.int nr), .val (.int y2), .val (.int z2), .val (.int km), .val (.int a3), .val (.int b3), .val (.int c2), sl169_l15, .val (.ref b8), .val (.int (2 : Int32)), .unset, .unset, .unset, .unset, .unset, .unset] [(.int (1 : Int32)), (.int (2 : Int32))]))
                    have hc226_46 : ¬ ((2 : Int32) = (1 : Int32)) := by decide
                    refine own_via (fun t k => XS.icmpYes X44.here hx rfl (pc0 := 226) (pc' := 244) rfl (hb hby at_226) rfl (feq hc226_46).2 (by decide) (by decide) k) ?_
                    show OwnEnds p.tables e below _ (T44.setTop (mkF m 244 #[.val (.int p0), .val (.int p1), .val (.int p2), .val (.int p3), .val (.int p4), .val (.long q5), .second, .val (.int x0), .val (.int nr), .val (.int y2), .val (.int z2), .val (.int km), .val (.int a3), .val (.int b3), .val (.int c2), sl169_l15, .val (.ref b8), .val (.int (2 : Int32)), .unset, .unset, .unset, .unset, .unset, .unset] []))
                    refine own_via (fun t k => XS.iload X44.here hx rfl (hb hby at_244) rfl k) ?_
                    show OwnEnds p.tables e below _ (T44.setTop (mkF m 246 #[.val (.int p0), .val (.int p1), .val (.int p2), .val (.int p3), .val (.int p4), .val (.long q5), .second, .val (.int x0), .val (.int nr), .val (.int y2), .val (.int z2), .val (.int km), .val (.int a3), .val (.int b3), .val (.int c2), sl169_l15, .val (.ref b8), .val (.int (2 : Int32)), .unset, .unset, .unset, .unset, .unset, .unset] [(.int (2 : Int32))]))
                    refine own_via (fun t k => XS.iconst X44.here hx rfl (hb hby at_246) k) ?_
                    show OwnEnds p.tables e below _ (T44.setTop (mkF m 247 #[.val (.int p0), .val (.int p1), .val (.int p2), .val (.int p3), .val (.int p4), .val (.long q5), .second, .val (.int x0), .val (.int nr), .val (.int y2), .val (.int z2), .val (.int km), .val (.int a3), .val (.int b3), .val (.int c2), sl169_l15, .val (.ref b8), .val (.int (2 : Int32)), .unset, .unset, .unset, .unset, .unset, .unset] [(.int (2 : Int32)), (.int (2 : Int32))]))
                    have hc247_47 : (2 : Int32) = (2 : Int32) := by decide
                    refine own_via (fun t k => XS.icmpNo X44.here hx rfl (hb hby at_247) rfl (teq hc247_47).2 k) ?_
                    show OwnEnds p.tables e below _ (T44.setTop (mkF m 250 #[.val (.int p0), .val (.int p1), .val (.int p2), .val (.int p3), .val (.int p4), .val (.long q5), .second, .val (.int x0), .val (.int nr), .val (.int y2), .val (.int z2), .val (.int km), .val (.int a3), .val (.int b3), .val (.int c2), sl169_l15, .val (.ref b8), .val (.int (2 : Int32)), .unset, .unset, .unset, .unset, .unset, .unset] []))
                    refine own_via (fun t k => XS.iconst X44.here hx rfl (hb hby at_250) k) ?_
                    show OwnEnds p.tables e below _ (T44.setTop (mkF m 251 #[.val (.int p0), .val (.int p1), .val (.int p2), .val (.int p3), .val (.int p4), .val (.long q5), .second, .val (.int x0), .val (.int nr), .val (.int y2), .val (.int z2), .val (.int km), .val (.int a3), .val (.int b3), .val (.int c2), sl169_l15, .val (.ref b8), .val (.int (2 : Int32)), .unset, .unset, .unset, .unset, .unset, .unset] [(.int (2 : Int32))]))
                    obtain ⟨T48, h48, k48, X48, e48, E48, A48, st48⟩ := newP X44 hx hZ (hw _ (List.mem_of_getElem? (i := 1) rfl)) e44 (g := (mkF m 251 #[.val (.int p0), .val (.int p1), .val (.int p2), .val (.int p3), .val (.int p4), .val (.long q5), .second, .val (.int x0), .val (.int nr), .val (.int y2), .val (.int z2), .val (.int km), .val (.int a3), .val (.int b3), .val (.int c2), sl169_l15, .val (.ref b8), .val (.int (2 : Int32)), .unset, .unset, .unset, .unset, .unset, .unset] [(.int (2 : Int32))])) rfl (hb hby at_251) rfl (by decide) (cap := 2) (by decide) (by decide) (by decide) (by decide)
                    obtain ⟨b48, g48⟩ : ∃ z, z = h44.size := ⟨_, rfl⟩
                    rw [← g48] at A48 st48
                    have ne_b8_b48 : b8 ≠ b48 := Nat.ne_of_lt (Nat.lt_of_lt_of_le A_b8.lt (Nat.le_of_eq g48.symm))
                    have g_b48 : n0 ≤ b48 := Nat.le_trans Zs_W44 (Nat.le_of_eq g48.symm)
                    have Zs_48 : n0 ≤ _ := Nat.le_trans Zs_W44 E48.1
                    replace A_b8 := A_b8.ext E48
                    have A_b48 : AL Z h48 b48 .int [(.int (0 : Int32)), (.int (0 : Int32))] := AL.new A48 (by decide) (i := 2) rfl
                    refine own_via st48 ?_
                    show OwnEnds p.tables e below _ (T48.setTop (mkF m 253 #[.val (.int p0), .val (.int p1), .val (.int p2), .val (.int p3), .val (.int p4), .val (.long q5), .second, .val (.int x0), .val (.int nr), .val (.int y2), .val (.int z2), .val (.int km), .val (.int a3), .val (.int b3), .val (.int c2), sl169_l15, .val (.ref b8), .val (.int (2 : Int32)), .unset, .unset, .unset, .unset, .unset, .unset] [(.ref b48)]))
                    refine own_via (fun t k => XS.dup X48.here hx rfl (hb hby at_253) rfl rfl k) ?_
                    show OwnEnds p.tables e below _ (T48.setTop (mkF m 254 #[.val (.int p0), .val (.int p1), .val (.int p2), .val (.int p3), .val (.int p4), .val (.long q5), .second, .val (.int x0), .val (.int nr), .val (.int y2), .val (.int z2), .val (.int km), .val (.int a3), .val (.int b3), .val (.int c2), sl169_l15, .val (.ref b8), .val (.int (2 : Int32)), .unset, .unset, .unset, .unset, .unset, .unset] [(.ref b48), (.ref b48)]))
                    refine own_via (fun t k => XS.iconst X48.here hx rfl (hb hby at_254) k) ?_
                    show OwnEnds p.tables e below _ (T48.setTop (mkF m 255 #[.val (.int p0), .val (.int p1), .val (.int p2), .val (.int p3), .val (.int p4), .val (.long q5), .second, .val (.int x0), .val (.int nr), .val (.int y2), .val (.int z2), .val (.int km), .val (.int a3), .val (.int b3), .val (.int c2), sl169_l15, .val (.ref b8), .val (.int (2 : Int32)), .unset, .unset, .unset, .unset, .unset, .unset] [(.int (0 : Int32)), (.ref b48), (.ref b48)]))
                    refine own_via (fun t k => XS.aload X48.here hx rfl (hb hby at_255) rfl rfl k) ?_
                    show OwnEnds p.tables e below _ (T48.setTop (mkF m 257 #[.val (.int p0), .val (.int p1), .val (.int p2), .val (.int p3), .val (.int p4), .val (.long q5), .second, .val (.int x0), .val (.int nr), .val (.int y2), .val (.int z2), .val (.int km), .val (.int a3), .val (.int b3), .val (.int c2), sl169_l15, .val (.ref b8), .val (.int (2 : Int32)), .unset, .unset, .unset, .unset, .unset, .unset] [(.ref b8), (.int (0 : Int32)), (.ref b48), (.ref b48)]))
                    refine own_via (fun t k => XS.iconst X48.here hx rfl (hb hby at_257) k) ?_
                    show OwnEnds p.tables e below _ (T48.setTop (mkF m 258 #[.val (.int p0), .val (.int p1), .val (.int p2), .val (.int p3), .val (.int p4), .val (.long q5), .second, .val (.int x0), .val (.int nr), .val (.int y2), .val (.int z2), .val (.int km), .val (.int a3), .val (.int b3), .val (.int c2), sl169_l15, .val (.ref b8), .val (.int (2 : Int32)), .unset, .unset, .unset, .unset, .unset, .unset] [(.int (0 : Int32)), (.ref b8), (.int (0 : Int32)), (.ref b48), (.ref b48)]))
                    refine own_via (own_ldI X48 hx hZ e48 A_b8 (v := (.int a3)) 0 rfl rfl (g := (mkF m 258 #[.val (.int p0), .val (.int p1), .val (.int p2), .val (.int p3), .val (.int p4), .val (.long q5), .second, .val (.int x0), .val (.int nr), .val (.int y2), .val (.int z2), .val (.int km), .val (.int a3), .val (.int b3), .val (.int c2), sl169_l15, .val (.ref b8), .val (.int (2 : Int32)), .unset, .unset, .unset, .unset, .unset, .unset] [(.int (0 : Int32)), (.ref b8), (.int (0 : Int32)), (.ref b48), (.ref b48)])) rfl rfl (hb hby at_258)) ?_
                    show OwnEnds p.tables e below _ (T48.setTop (mkF m 259 #[.val (.int p0), .val (.int p1), .val (.int p2), .val (.int p3), .val (.int p4), .val (.long q5), .second, .val (.int x0), .val (.int nr), .val (.int y2), .val (.int z2), .val (.int km), .val (.int a3), .val (.int b3), .val (.int c2), sl169_l15, .val (.ref b8), .val (.int (2 : Int32)), .unset, .unset, .unset, .unset, .unset, .unset] [(.int a3), (.int (0 : Int32)), (.ref b48), (.ref b48)]))
                    obtain ⟨T49, h49, X49, e49, W49, AA49, st49⟩ := own_stI X48 hx hZ e48 A_b48 0 rfl (Nat.le_of_ble_eq_true rfl) (g := (mkF m 259 #[.val (.int p0), .val (.int p1), .val (.int p2), .val (.int p3), .val (.int p4), .val (.long q5), .second, .val (.int x0), .val (.int nr), .val (.int y2), .val (.int z2), .val (.int km), .val (.int a3), .val (.int b3), .val (.int c2), sl169_l15, .val (.ref b8), .val (.int (2 : Int32)), .unset, .unset, .unset, .unset, .unset, .unset] [(.int a3), (.int (0 : Int32)), (.ref b48), (.ref b48)])) rfl rfl (hb hby at_259)
                    replace A_b8 := A_b8.other W49 ne_b8_b48
                    have Zs_W49 : n0 ≤ _ := Nat.le_trans Zs_48 (Keep.of_wr W49).1
                    replace A_b48 : AL Z h49 b48 .int [(.int a3), (.int (0 : Int32))] := AA49
                    have N49 := Fr.snoc X49 N44 g_b48
                    refine own_via st49 ?_
                    show OwnEnds p.tables e below _ (T49.setTop (mkF m 260 #[.val (.int p0), .val (.int p1), .val (.int p2), .val (.int p3), .val (.int p4), .val (.long q5), .second, .val (.int x0), .val (.int nr), .val (.int y2), .val (.int z2), .val (.int km), .val (.int a3), .val (.int b3), .val (.int c2), sl169_l15, .val (.ref b8), .val (.int (2 : Int32)), .unset, .unset, .unset, .unset, .unset, .unset] [(.ref b48)]))
                    refine own_via (fun t k => XS.dup X49.here hx rfl (hb hby at_260) rfl rfl k) ?_
                    show OwnEnds p.tables e below _ (T49.setTop (mkF m 261 #[.val (.int p0), .val (.int p1), .val (.int p2), .val (.int p3), .val (.int p4), .val (.long q5), .second, .val (.int x0), .val (.int nr), .val (.int y2), .val (.int z2), .val (.int km), .val (.int a3), .val (.int b3), .val (.int c2), sl169_l15, .val (.ref b8), .val (.int (2 : Int32)), .unset, .unset, .unset, .unset, .unset, .unset] [(.ref b48), (.ref b48)]))
                    refine own_via (fun t k => XS.iconst X49.here hx rfl (hb hby at_261) k) ?_
                    show OwnEnds p.tables e below _ (T49.setTop (mkF m 262 #[.val (.int p0), .val (.int p1), .val (.int p2), .val (.int p3), .val (.int p4), .val (.long q5), .second, .val (.int x0), .val (.int nr), .val (.int y2), .val (.int z2), .val (.int km), .val (.int a3), .val (.int b3), .val (.int c2), sl169_l15, .val (.ref b8), .val (.int (2 : Int32)), .unset, .unset, .unset, .unset, .unset, .unset] [(.int (1 : Int32)), (.ref b48), (.ref b48)]))
                    refine own_via (fun t k => XS.aload X49.here hx rfl (hb hby at_262) rfl rfl k) ?_
                    show OwnEnds p.tables e below _ (T49.setTop (mkF m 264 #[.val (.int p0), .val (.int p1), .val (.int p2), .val (.int p3), .val (.int p4), .val (.long q5), .second, .val (.int x0), .val (.int nr), .val (.int y2), .val (.int z2), .val (.int km), .val (.int a3), .val (.int b3), .val (.int c2), sl169_l15, .val (.ref b8), .val (.int (2 : Int32)), .unset, .unset, .unset, .unset, .unset, .unset] [(.ref b8), (.int (1 : Int32)), (.ref b48), (.ref b48)]))
                    refine own_via (fun t k => XS.iconst X49.here hx rfl (hb hby at_264) k) ?_
                    show OwnEnds p.tables e below _ (T49.setTop (mkF m 265 #[.val (.int p0), .val (.int p1), .val (.int p2), .val (.int p3), .val (.int p4), .val (.long q5), .second, .val (.int x0), .val (.int nr), .val (.int y2), .val (.int z2), .val (.int km), .val (.int a3), .val (.int b3), .val (.int c2), sl169_l15, .val (.ref b8), .val (.int (2 : Int32)), .unset, .unset, .unset, .unset, .unset, .unset] [(.int (1 : Int32)), (.ref b8), (.int (1 : Int32)), (.ref b48), (.ref b48)]))
                    refine own_via (own_ldI X49 hx hZ e49 A_b8 (v := (.int b3)) 1 rfl rfl (g := (mkF m 265 #[.val (.int p0), .val (.int p1), .val (.int p2), .val (.int p3), .val (.int p4), .val (.long q5), .second, .val (.int x0), .val (.int nr), .val (.int y2), .val (.int z2), .val (.int km), .val (.int a3), .val (.int b3), .val (.int c2), sl169_l15, .val (.ref b8), .val (.int (2 : Int32)), .unset, .unset, .unset, .unset, .unset, .unset] [(.int (1 : Int32)), (.ref b8), (.int (1 : Int32)), (.ref b48), (.ref b48)])) rfl rfl (hb hby at_265)) ?_
                    show OwnEnds p.tables e below _ (T49.setTop (mkF m 266 #[.val (.int p0), .val (.int p1), .val (.int p2), .val (.int p3), .val (.int p4), .val (.long q5), .second, .val (.int x0), .val (.int nr), .val (.int y2), .val (.int z2), .val (.int km), .val (.int a3), .val (.int b3), .val (.int c2), sl169_l15, .val (.ref b8), .val (.int (2 : Int32)), .unset, .unset, .unset, .unset, .unset, .unset] [(.int b3), (.int (1 : Int32)), (.ref b48), (.ref b48)]))
                    obtain ⟨T50, h50, X50, e50, W50, AA50, st50⟩ := own_stI X49 hx hZ e49 A_b48 1 rfl (Nat.le_of_ble_eq_true rfl) (g := (mkF m 266 #[.val (.int p0), .val (.int p1), .val (.int p2), .val (.int p3), .val (.int p4), .val (.long q5), .second, .val (.int x0), .val (.int nr), .val (.int y2), .val (.int z2), .val (.int km), .val (.int a3), .val (.int b3), .val (.int c2), sl169_l15, .val (.ref b8), .val (.int (2 : Int32)), .unset, .unset, .unset, .unset, .unset, .unset] [(.int b3), (.int (1 : Int32)), (.ref b48), (.ref b48)])) rfl rfl (hb hby at_266)
                    replace A_b8 := A_b8.other W50 ne_b8_b48
                    have Zs_W50 : n0 ≤ _ := Nat.le_trans Zs_W49 (Keep.of_wr W50).1
                    replace A_b48 : AL Z h50 b48 .int [(.int a3), (.int b3)] := AA50
                    have N50 := Fr.snoc X50 N49 g_b48
                    refine own_via st50 ?_
                    show OwnEnds p.tables e below _ (T50.setTop (mkF m 267 #[.val (.int p0), .val (.int p1), .val (.int p2), .val (.int p3), .val (.int p4), .val (.long q5), .second, .val (.int x0), .val (.int nr), .val (.int y2), .val (.int z2), .val (.int km), .val (.int a3), .val (.int b3), .val (.int c2), sl169_l15, .val (.ref b8), .val (.int (2 : Int32)), .unset, .unset, .unset, .unset, .unset, .unset] [(.ref b48)]))
                    refine own_via (fun t k => XS.astore X50.here hx rfl (hb hby at_267) rfl rfl (l' := #[.val (.int p0), .val (.int p1), .val (.int p2), .val (.int p3), .val (.int p4), .val (.long q5), .second, .val (.int x0), .val (.int nr), .val (.int y2), .val (.int z2), .val (.int km), .val (.int a3), .val (.int b3), .val (.int c2), sl169_l15, .val (.ref b8), .val (.int (2 : Int32)), .val (.ref b48), .unset, .unset, .unset, .unset, .unset]) rfl k) ?_
                    show OwnEnds p.tables e below _ (T50.setTop (mkF m 269 #[.val (.int p0), .val (.int p1), .val (.int p2), .val (.int p3), .val (.int p4), .val (.long q5), .second, .val (.int x0), .val (.int nr), .val (.int y2), .val (.int z2), .val (.int km), .val (.int a3), .val (.int b3), .val (.int c2), sl169_l15, .val (.ref b8), .val (.int (2 : Int32)), .val (.ref b48), .unset, .unset, .unset, .unset, .unset] []))
                    refine own_via (fun t k => XS.goto X50.here hx rfl (pc0 := 269) (pc' := 298) rfl (hb hby at_269) (by decide) (by decide) k) ?_
                    show OwnEnds p.tables e below _ (T50.setTop (mkF m 298 #[.val (.int p0), .val (.int p1), .val (.int p2), .val (.int p3), .val (.int p4), .val (.long q5), .second, .val (.int x0), .val (.int nr), .val (.int y2), .val (.int z2), .val (.int km), .val (.int a3), .val (.int b3), .val (.int c2), sl169_l15, .val (.ref b8), .val (.int (2 : Int32)), .val (.ref b48), .unset, .unset, .unset, .unset, .unset] []))
                    obtain ⟨T51, h51, X51, e51, E51, A51, D51, -, st51⟩ := newO X50 hx hZ hown (hw _ (List.mem_of_getElem? (i := 2) rfl)) (hw _ (List.mem_of_getElem? (i := 3) rfl)) (hw _ (List.mem_of_getElem? (i := 4) rfl)) e50 (g := (mkF m 298 #[.val (.int p0), .val (.int p1), .val (.int p2), .val (.int p3), .val (.int p4), .val (.long q5), .second, .val (.int x0), .val (.int nr), .val (.int y2), .val (.int z2), .val (.int km), .val (.int a3), .val (.int b3), .val (.int c2), sl169_l15, .val (.ref b8), .val (.int (2 : Int32)), .val (.ref b48), .unset, .unset, .unset, .unset, .unset] [])) rfl (hb hby at_298) (by decide) (by decide)
                    obtain ⟨b51, g51⟩ : ∃ z, z = h50.size := ⟨_, rfl⟩
                    rw [← g51] at A51 D51 st51
                    have ne_b48_b51 : b48 ≠ b51 := Nat.ne_of_lt (Nat.lt_of_lt_of_le A_b48.lt (Nat.le_of_eq g51.symm))
                    have ne_b8_b51 : b8 ≠ b51 := Nat.ne_of_lt (Nat.lt_of_lt_of_le A_b8.lt (Nat.le_of_eq g51.symm))
                    have g_b51 : n0 ≤ b51 := Nat.le_trans Zs_W50 (Nat.le_of_eq g51.symm)
                    have Zs_51 : n0 ≤ _ := Nat.le_trans Zs_W50 E51.1
                    replace A_b8 := A_b8.ext E51
                    replace A_b48 := A_b48.ext E51
                    have E_b51 := A51
                    have F_index_b51 : Fld Z h51 b51 "com/example/crowd_cache/crowdcache/core/Bucket" "index" "J" (.long (0 : Int64)) := D51 (Or.inr (hw _ (List.mem_of_getElem? (i := 13) rfl))) (ty := .long) (by decide)
                    have F_positions_b51 : Fld Z h51 b51 "com/example/crowd_cache/crowdcache/core/Bucket" "positions" "[I" .null := D51 (Or.inr (hw _ (List.mem_of_getElem? (i := 15) rfl))) (ty := (.array .int)) (by decide)
                    refine own_via st51 ?_
                    show OwnEnds p.tables e below _ (T51.setTop (mkF m 301 #[.val (.int p0), .val (.int p1), .val (.int p2), .val (.int p3), .val (.int p4), .val (.long q5), .second, .val (.int x0), .val (.int nr), .val (.int y2), .val (.int z2), .val (.int km), .val (.int a3), .val (.int b3), .val (.int c2), sl169_l15, .val (.ref b8), .val (.int (2 : Int32)), .val (.ref b48), .unset, .unset, .unset, .unset, .unset] [(.ref b51)]))
                    refine own_via (fun t k => XS.dup X51.here hx rfl (hb hby at_301) rfl rfl k) ?_
                    show OwnEnds p.tables e below _ (T51.setTop (mkF m 302 #[.val (.int p0), .val (.int p1), .val (.int p2), .val (.int p3), .val (.int p4), .val (.long q5), .second, .val (.int x0), .val (.int nr), .val (.int y2), .val (.int z2), .val (.int km), .val (.int a3), .val (.int b3), .val (.int c2), sl169_l15, .val (.ref b8), .val (.int (2 : Int32)), .val (.ref b48), .unset, .unset, .unset, .unset, .unset] [(.ref b51), (.ref b51)]))
                    refine own_via (fun t k => XS.lload X51.here hx rfl (hb hby at_302) rfl k) ?_
                    show OwnEnds p.tables e below _ (T51.setTop (mkF m 304 #[.val (.int p0), .val (.int p1), .val (.int p2), .val (.int p3), .val (.int p4), .val (.long q5), .second, .val (.int x0), .val (.int nr), .val (.int y2), .val (.int z2), .val (.int km), .val (.int a3), .val (.int b3), .val (.int c2), sl169_l15, .val (.ref b8), .val (.int (2 : Int32)), .val (.ref b48), .unset, .unset, .unset, .unset, .unset] [(.long q5), (.ref b51), (.ref b51)]))
                    refine own_via (X51.ldc2Long hx hown (mvT hZ (hw _ (List.mem_of_getElem? (i := 5) rfl))) (g := (mkF m 304 #[.val (.int p0), .val (.int p1), .val (.int p2), .val (.int p3), .val (.int p4), .val (.long q5), .second, .val (.int x0), .val (.int nr), .val (.int y2), .val (.int z2), .val (.int km), .val (.int a3), .val (.int b3), .val (.int c2), sl169_l15, .val (.ref b8), .val (.int (2 : Int32)), .val (.ref b48), .unset, .unset, .unset, .unset, .unset] [(.long q5), (.ref b51), (.ref b51)])) rfl (hb hby at_304)) ?_
                    show OwnEnds p.tables e below _ (T51.setTop (mkF m 307 #[.val (.int p0), .val (.int p1), .val (.int p2), .val (.int p3), .val (.int p4), .val (.long q5), .second, .val (.int x0), .val (.int nr), .val (.int y2), .val (.int z2), .val (.int km), .val (.int a3), .val (.int b3), .val (.int c2), sl169_l15, .val (.ref b8), .val (.int (2 : Int32)), .val (.ref b48), .unset, .unset, .unset, .unset, .unset] [(.long (140737488355327 : Int64)), (.long q5), (.ref b51), (.ref b51)]))
                    refine own_via (fun t k => XS.land X51.here hx rfl (hb hby at_307) rfl k) ?_
                    show OwnEnds p.tables e below _ (T51.setTop (mkF m 308 #[.val (.int p0), .val (.int p1), .val (.int p2), .val (.int p3), .val (.int p4), .val (.long q5), .second, .val (.int x0), .val (.int nr), .val (.int y2), .val (.int z2), .val (.int km), .val (.int a3), .val (.int b3), .val (.int c2), sl169_l15, .val (.ref b8), .val (.int (2 : Int32)), .val (.ref b48), .unset, .unset, .unset, .unset, .unset] [(.long (q5 &&& (140737488355327 : Int64))), (.ref b51), (.ref b51)]))
                    refine own_via (fun t k => XS.aload X51.here hx rfl (hb hby at_308) rfl rfl k) ?_
                    show OwnEnds p.tables e below _ (T51.setTop (mkF m 310 #[.val (.int p0), .val (.int p1), .val (.int p2), .val (.int p3), .val (.int p4), .val (.long q5), .second, .val (.int x0), .val (.int nr), .val (.int y2), .val (.int z2), .val (.int km), .val (.int a3), .val (.int b3), .val (.int c2), sl169_l15, .val (.ref b8), .val (.int (2 : Int32)), .val (.ref b48), .unset, .unset, .unset, .unset, .unset] [(.ref b48), (.long (q5 &&& (140737488355327 : Int64))), (.ref b51), (.ref b51)]))
                    obtain ⟨_, _, ⟨T52, L52, k52, n52⟩, -, X52, ⟨Lc52, hQ52, l52, y52, z52⟩, st52⟩ := X51.specialBack hx (y := (⟨"com/example/crowd_cache/crowdcache/core/Bucket", "<init>", "(J[I)V"⟩ : MethodName)) rfl hown (mvT hZ (hw _ (List.mem_of_getElem? (i := 6) rfl))) (mvT hZ (hw _ (List.mem_of_getElem? (i := 7) rfl))) (mvT hZ (hw _ (List.mem_of_getElem? (i := 8) rfl))) (by decide) (backOf (W := 1) (rm1 l Z aw hw [] b51 (q5 &&& (140737488355327 : Int64)) b48 h51 n0 Zs_51 E_b51 F_index_b51 F_positions_b51 g_b51) hZ (hw _ (List.mem_of_getElem? (i := 8) rfl)) (hw _ (List.mem_of_getElem? (i := 4) rfl)) (by decide) (by decide)) (g := (mkF m 310 #[.val (.int p0), .val (.int p1), .val (.int p2), .val (.int p3), .val (.int p4), .val (.long q5), .second, .val (.int x0), .val (.int nr), .val (.int y2), .val (.int z2), .val (.int km), .val (.int a3), .val (.int b3), .val (.int c2), sl169_l15, .val (.ref b8), .val (.int (2 : Int32)), .val (.ref b48), .unset, .unset, .unset, .unset, .unset] [(.ref b48), (.long (q5 &&& (140737488355327 : Int64))), (.ref b51), (.ref b51)])) rfl (by rw [hml]; rfl) (Steps.refl _) (a := b51) (argsL := [(.long (q5 &&& (140737488355327 : Int64))), (.ref b48)]) (rest := [(.ref b51)]) (lenOf pd_2 rfl) rfl (by show 2 * 0 + _ ≤ _; exact Nat.le_of_eq rfl) (hb hby at_310) (fun _ _ => ⟨rfl, e51, (by decide : 3 + 0 ≤ _), (by decide : 7 + 0 ≤ _)⟩)
                    dsimp only [Pt.U, Pt.locs, Pt.cells, Pt.slots] at X52 l52 y52 z52 st52 hQ52
                    subst l52 y52 z52
                    obtain ⟨h52, e52⟩ : ∃ z, T52.heap = z := ⟨_, rfl⟩
                    rw [e52] at hQ52
                    obtain ⟨rfl, Nq52, K52, Y52_0, Y52_1, Y52_2⟩ := hQ52
                    have N52 := Fr.app N50 Nq52
                    replace A_b8 := A_b8.keep K52 (ninS ne_b8_b51 nin0)
                    replace A_b48 := A_b48.keep K52 (ninS ne_b48_b51 nin0)
                    replace E_b51 := E_b51.keep K52
                    have F_index_b51 : Fld Z h52 b51 "com/example/crowd_cache/crowdcache/core/Bucket" "index" "J" (.long (q5 &&& (140737488355327 : Int64))) := Y52_1
                    have F_positions_b51 : Fld Z h52 b51 "com/example/crowd_cache/crowdcache/core/Bucket" "positions" "[I" (.ref b48) := Y52_2
                    have Zs_52 : n0 ≤ _ := Nat.le_trans Zs_51 K52.1
                    refine own_of st52 ?_
                    show OwnEnds p.tables e below _ (T52.setTop (mkF m 313 #[.val (.int p0), .val (.int p1), .val (.int p2), .val (.int p3), .val (.int p4), .val (.long q5), .second, .val (.int x0), .val (.int nr), .val (.int y2), .val (.int z2), .val (.int km), .val (.int a3), .val (.int b3), .val (.int c2), sl169_l15, .val (.ref b8), .val (.int (2 : Int32)), .val (.ref b48), .unset, .unset, .unset, .unset, .unset] [(.ref b51)]))
                    refine own_via (fun t k => XS.astore X52.here hx rfl (hb hby at_313) rfl rfl (l' := #[.val (.int p0), .val (.int p1), .val (.int p2), .val (.int p3), .val (.int p4), .val (.long q5), .second, .val (.int x0), .val (.int nr), .val (.int y2), .val (.int z2), .val (.int km), .val (.int a3), .val (.int b3), .val (.int c2), sl169_l15, .val (.ref b8), .val (.int (2 : Int32)), .val (.ref b48), .val (.ref b51), .unset, .unset, .unset, .unset]) rfl k) ?_
                    show OwnEnds p.tables e below _ (T52.setTop (mkF m 315 #[.val (.int p0), .val (.int p1), .val (.int p2), .val (.int p3), .val (.int p4), .val (.long q5), .second, .val (.int x0), .val (.int nr), .val (.int y2), .val (.int z2), .val (.int km), .val (.int a3), .val (.int b3), .val (.int c2), sl169_l15, .val (.ref b8), .val (.int (2 : Int32)), .val (.ref b48), .val (.ref b51), .unset, .unset, .unset, .unset] []))
                    refine own_via (fun t k => XS.aload X52.here hx rfl (hb hby at_315) rfl rfl k) ?_
                    show OwnEnds p.tables e below _ (T52.setTop (mkF m 317 #[.val (.int p0), .val (.int p1), .val (.int p2), .val (.int p3), .val (.int p4), .val (.long q5), .second, .val (.int x0), .val (.int nr), .val (.int y2), .val (.int z2), .val (.int km), .val (.int a3), .val (.int b3), .val (.int c2), sl169_l15, .val (.ref b8), .val (.int (2 : Int32)), .val (.ref b48), .val (.ref b51), .unset, .unset, .unset, .unset] [(.ref b51)]))
                    obtain ⟨cq53, kq53, q53a, q53b, q53c⟩ := isOf hZ e52 E_b51
                    obtain ⟨_, _, ⟨T53, L53, k53, n53⟩, -, X53, ⟨Lc53, hQ53, l53, y53, z53⟩, st53⟩ := X52.virtualBack hx (y := (⟨"com/example/crowd_cache/crowdcache/core/Bucket", "toBitmap", "()[B"⟩ : MethodName)) (z := (⟨"com/example/crowd_cache/crowdcache/core/Bucket", "toBitmap", "()[B"⟩ : MethodName)) hown (mvT hZ (hw _ (List.mem_of_getElem? (i := 16) rfl))) (mvT hZ (hw _ (List.mem_of_getElem? (i := 17) rfl))) (notFace_of_selects (args := #[]) (mvT hZ (hw _ (List.mem_of_getElem? (i := 19) rfl)))) (mvT hZ (hw _ (List.mem_of_getElem? (i := 19) rfl))) (mvT hZ (hw _ (List.mem_of_getElem? (i := 18) rfl))) (by decide) (backOf (W := 0) (rm32 l Z aw hw [] b51 b48 a3 b3 h52 n0 Zs_52 E_b51 F_positions_b51 A_b48 hr_a3 hr_b3 (hab) (Int.le_refl _)) hZ (hw _ (List.mem_of_getElem? (i := 20) rfl)) (hw _ (List.mem_of_getElem? (i := 4) rfl)) (by decide) (by decide)) q53a q53c (g := (mkF m 317 #[.val (.int p0), .val (.int p1), .val (.int p2), .val (.int p3), .val (.int p4), .val (.long q5), .second, .val (.int x0), .val (.int nr), .val (.int y2), .val (.int z2), .val (.int km), .val (.int a3), .val (.int b3), .val (.int c2), sl169_l15, .val (.ref b8), .val (.int (2 : Int32)), .val (.ref b48), .val (.ref b51), .unset, .unset, .unset, .unset] [(.ref b51)])) rfl (by rw [hml]; rfl) (Steps.refl _) (argsL := []) (rest := []) (lenOf pd_3 rfl) rfl (by show 2 * 0 + _ ≤ _; exact Nat.le_of_eq rfl) (hb hby at_317) (fun _ _ => ⟨rfl, e52, (by decide : 3 + 1 ≤ _), (by decide : 7 + 8192 ≤ _)⟩)
                    dsimp only [Pt.U, Pt.locs, Pt.cells, Pt.slots] at X53 l53 y53 z53 st53 hQ53
                    subst l53 y53 z53
                    obtain ⟨h53, e53⟩ : ∃ z, T53.heap = z := ⟨_, rfl⟩
                    rw [e53] at hQ53
                    obtain ⟨bm, rfl, Nq53, K53, sz_bm', Y53_0⟩ := hQ53
                    have N53 := Fr.app N52 Nq53
                    have ne_b48_bm : b48 ≠ bm := Nat.ne_of_lt (Nat.lt_of_lt_of_le A_b48.lt sz_bm')
                    have ne_b51_bm : b51 ≠ bm := Nat.ne_of_lt (Nat.lt_of_lt_of_le E_b51.lt sz_bm')
                    have ne_b8_bm : b8 ≠ bm := Nat.ne_of_lt (Nat.lt_of_lt_of_le A_b8.lt sz_bm')
                    have g_bm : n0 ≤ bm := Nat.le_trans Zs_52 sz_bm'
                    replace A_b8 := A_b8.keep K53 nin0
                    replace A_b48 := A_b48.keep K53 nin0
                    replace E_b51 := E_b51.keep K53
                    replace F_index_b51 := F_index_b51.keep K53 nin0
                    replace F_positions_b51 := F_positions_b51.keep K53 nin0
                    have A_bm : AL Z h53 bm .byte (own_bl ((b3 / 8).toNatClampNeg + 1) [a3, b3]) := Y53_0
                    have Zs_53 : n0 ≤ _ := Nat.le_trans Zs_52 K53.1
                    refine own_of st53 ?_
                    show OwnEnds p.tables e below _ (T53.setTop (mkF m 320 #[.val (.int p0), .val (.int p1), .val (.int p2), .val (.int p3), .val (.int p4), .val (.long q5), .second, .val (.int x0), .val (.int nr), .val (.int y2), .val (.int z2), .val (.int km), .val (.int a3), .val (.int b3), .val (.int c2), sl169_l15, .val (.ref b8), .val (.int (2 : Int32)), .val (.ref b48), .val (.ref b51), .unset, .unset, .unset, .unset] [(.ref bm)]))
                    refine own_via (fun t k => XS.astore X53.here hx rfl (hb hby at_320) rfl rfl (l' := #[.val (.int p0), .val (.int p1), .val (.int p2), .val (.int p3), .val (.int p4), .val (.long q5), .second, .val (.int x0), .val (.int nr), .val (.int y2), .val (.int z2), .val (.int km), .val (.int a3), .val (.int b3), .val (.int c2), sl169_l15, .val (.ref b8), .val (.int (2 : Int32)), .val (.ref b48), .val (.ref b51), .val (.ref bm), .unset, .unset, .unset]) rfl k) ?_
                    show OwnEnds p.tables e below _ (T53.setTop (mkF m 322 #[.val (.int p0), .val (.int p1), .val (.int p2), .val (.int p3), .val (.int p4), .val (.long q5), .second, .val (.int x0), .val (.int nr), .val (.int y2), .val (.int z2), .val (.int km), .val (.int a3), .val (.int b3), .val (.int c2), sl169_l15, .val (.ref b8), .val (.int (2 : Int32)), .val (.ref b48), .val (.ref b51), .val (.ref bm), .unset, .unset, .unset] []))
                    refine own_via (fun t k => XS.aload X53.here hx rfl (hb hby at_322) rfl rfl k) ?_
                    show OwnEnds p.tables e below _ (T53.setTop (mkF m 324 #[.val (.int p0), .val (.int p1), .val (.int p2), .val (.int p3), .val (.int p4), .val (.long q5), .second, .val (.int x0), .val (.int nr), .val (.int y2), .val (.int z2), .val (.int km), .val (.int a3), .val (.int b3), .val (.int c2), sl169_l15, .val (.ref b8), .val (.int (2 : Int32)), .val (.ref b48), .val (.ref b51), .val (.ref bm), .unset, .unset, .unset] [(.ref b8)]))
                    refine own_via (fun t k => XS.iload X53.here hx rfl (hb hby at_324) rfl k) ?_
                    show OwnEnds p.tables e below _ (T53.setTop (mkF m 326 #[.val (.int p0), .val (.int p1), .val (.int p2), .val (.int p3), .val (.int p4), .val (.long q5), .second, .val (.int x0), .val (.int nr), .val (.int y2), .val (.int z2), .val (.int km), .val (.int a3), .val (.int b3), .val (.int c2), sl169_l15, .val (.ref b8), .val (.int (2 : Int32)), .val (.ref b48), .val (.ref b51), .val (.ref bm), .unset, .unset, .unset] [(.int (2 : Int32)), (.ref b8)]))
                    refine own_via (fun t k => XS.iconst X53.here hx rfl (hb hby at_326) k) ?_
                    show OwnEnds p.tables e below _ (T53.setTop (mkF m 327 #[.val (.int p0), .val (.int p1), .val (.int p2), .val (.int p3), .val (.int p4), .val (.long q5), .second, .val (.int x0), .val (.int nr), .val (.int y2), .val (.int z2), .val (.int km), .val (.int a3), .val (.int b3), .val (.int c2), sl169_l15, .val (.ref b8), .val (.int (2 : Int32)), .val (.ref b48), .val (.ref b51), .val (.ref bm), .unset, .unset, .unset] [(.int (1 : Int32)), (.int (2 : Int32)), (.ref b8)]))
                    refine own_via (fun t k => XS.isub X53.here hx rfl (hb hby at_327) rfl k) ?_
                    show OwnEnds p.tables e below _ (T53.setTop (mkF m 328 #[.val (.int p0), .val (.int p1), .val (.int p2), .val (.int p3), .val (.int p4), .val (.long q5), .second, .val (.int x0), .val (.int nr), .val (.int y2), .val (.int z2), .val (.int km), .val (.int a3), .val (.int b3), .val (.int c2), sl169_l15, .val (.ref b8), .val (.int (2 : Int32)), .val (.ref b48), .val (.ref b51), .val (.ref bm), .unset, .unset, .unset] [(.int (1 : Int32)), (.ref b8)]))
                    refine own_via (own_ldI X53 hx hZ e53 A_b8 (v := (.int b3)) 1 rfl rfl (g := (mkF m 328 #[.val (.int p0), .val (.int p1), .val (.int p2), .val (.int p3), .val (.int p4), .val (.long q5), .second, .val (.int x0), .val (.int nr), .val (.int y2), .val (.int z2), .val (.int km), .val (.int a3), .val (.int b3), .val (.int c2), sl169_l15, .val (.ref b8), .val (.int (2 : Int32)), .val (.ref b48), .val (.ref b51), .val (.ref bm), .unset, .unset, .unset] [(.int (1 : Int32)), (.ref b8)])) rfl rfl (hb hby at_328)) ?_
                    show OwnEnds p.tables e below _ (T53.setTop (mkF m 329 #[.val (.int p0), .val (.int p1), .val (.int p2), .val (.int p3), .val (.int p4), .val (.long q5), .second, .val (.int x0), .val (.int nr), .val (.int y2), .val (.int z2), .val (.int km), .val (.int a3), .val (.int b3), .val (.int c2), sl169_l15, .val (.ref b8), .val (.int (2 : Int32)), .val (.ref b48), .val (.ref b51), .val (.ref bm), .unset, .unset, .unset] [(.int b3)]))
                    refine own_via (fun t k => XS.istore X53.here hx rfl (hb hby at_329) rfl (l' := #[.val (.int p0), .val (.int p1), .val (.int p2), .val (.int p3), .val (.int p4), .val (.long q5), .second, .val (.int x0), .val (.int nr), .val (.int y2), .val (.int z2), .val (.int km), .val (.int a3), .val (.int b3), .val (.int c2), sl169_l15, .val (.ref b8), .val (.int (2 : Int32)), .val (.ref b48), .val (.ref b51), .val (.ref bm), .val (.int b3), .unset, .unset]) rfl k) ?_
                    show OwnEnds p.tables e below _ (T53.setTop (mkF m 331 #[.val (.int p0), .val (.int p1), .val (.int p2), .val (.int p3), .val (.int p4), .val (.long q5), .second, .val (.int x0), .val (.int nr), .val (.int y2), .val (.int z2), .val (.int km), .val (.int a3), .val (.int b3), .val (.int c2), sl169_l15, .val (.ref b8), .val (.int (2 : Int32)), .val (.ref b48), .val (.ref b51), .val (.ref bm), .val (.int b3), .unset, .unset] []))
                    refine own_via (fun t k => XS.aload X53.here hx rfl (hb hby at_331) rfl rfl k) ?_
                    show OwnEnds p.tables e below _ (T53.setTop (mkF m 333 #[.val (.int p0), .val (.int p1), .val (.int p2), .val (.int p3), .val (.int p4), .val (.long q5), .second, .val (.int x0), .val (.int nr), .val (.int y2), .val (.int z2), .val (.int km), .val (.int a3), .val (.int b3), .val (.int c2), sl169_l15, .val (.ref b8), .val (.int (2 : Int32)), .val (.ref b48), .val (.ref b51), .val (.ref bm), .val (.int b3), .unset, .unset] [(.ref bm)]))
                    refine own_via (own_len X53 hx hZ e53 A_bm (z := ((b3 / (8 : Int32)) + (1 : Int32))) (by rw [own_bll]; exact (own_tl hr_b3).1) (g := (mkF m 333 #[.val (.int p0), .val (.int p1), .val (.int p2), .val (.int p3), .val (.int p4), .val (.long q5), .second, .val (.int x0), .val (.int nr), .val (.int y2), .val (.int z2), .val (.int km), .val (.int a3), .val (.int b3), .val (.int c2), sl169_l15, .val (.ref b8), .val (.int (2 : Int32)), .val (.ref b48), .val (.ref b51), .val (.ref bm), .val (.int b3), .unset, .unset] [(.ref bm)])) rfl rfl (hb hby at_333)) ?_
                    show OwnEnds p.tables e below _ (T53.setTop (mkF m 334 #[.val (.int p0), .val (.int p1), .val (.int p2), .val (.int p3), .val (.int p4), .val (.long q5), .second, .val (.int x0), .val (.int nr), .val (.int y2), .val (.int z2), .val (.int km), .val (.int a3), .val (.int b3), .val (.int c2), sl169_l15, .val (.ref b8), .val (.int (2 : Int32)), .val (.ref b48), .val (.ref b51), .val (.ref bm), .val (.int b3), .unset, .unset] [(.int ((b3 / (8 : Int32)) + (1 : Int32)))]))
                    refine own_via (fun t k => XS.iload X53.here hx rfl (hb hby at_334) rfl k) ?_
                    show OwnEnds p.tables e below _ (T53.setTop (mkF m 336 #[.val (.int p0), .val (.int p1), .val (.int p2), .val (.int p3), .val (.int p4), .val (.long q5), .second, .val (.int x0), .val (.int nr), .val (.int y2), .val (.int z2), .val (.int km), .val (.int a3), .val (.int b3), .val (.int c2), sl169_l15, .val (.ref b8), .val (.int (2 : Int32)), .val (.ref b48), .val (.ref b51), .val (.ref bm), .val (.int b3), .unset, .unset] [(.int b3), (.int ((b3 / (8 : Int32)) + (1 : Int32)))]))
                    refine own_via (fun t k => XS.bipush X53.here hx rfl (hb hby at_336) k) ?_
                    show OwnEnds p.tables e below _ (T53.setTop (mkF m 338 #[.val (.int p0), .val (.int p1), .val (.int p2), .val (.int p3), .val (.int p4), .val (.long q5), .second, .val (.int x0), .val (.int nr), .val (.int y2), .val (.int z2), .val (.int km), .val (.int a3), .val (.int b3), .val (.int c2), sl169_l15, .val (.ref b8), .val (.int (2 : Int32)), .val (.ref b48), .val (.ref b51), .val (.ref bm), .val (.int b3), .unset, .unset] [(.int (8 : Int32)), (.int b3), (.int ((b3 / (8 : Int32)) + (1 : Int32)))]))
                    refine own_via (fun t k => XS.idiv X53.here hx rfl (hb hby at_338) rfl (by decide) k) ?_
                    show OwnEnds p.tables e below _ (T53.setTop (mkF m 339 #[.val (.int p0), .val (.int p1), .val (.int p2), .val (.int p3), .val (.int p4), .val (.long q5), .second, .val (.int x0), .val (.int nr), .val (.int y2), .val (.int z2), .val (.int km), .val (.int a3), .val (.int b3), .val (.int c2), sl169_l15, .val (.ref b8), .val (.int (2 : Int32)), .val (.ref b48), .val (.ref b51), .val (.ref bm), .val (.int b3), .unset, .unset] [(.int (b3 / (8 : Int32))), (.int ((b3 / (8 : Int32)) + (1 : Int32)))]))
                    refine own_via (fun t k => XS.iconst X53.here hx rfl (hb hby at_339) k) ?_
                    show OwnEnds p.tables e below _ (T53.setTop (mkF m 340 #[.val (.int p0), .val (.int p1), .val (.int p2), .val (.int p3), .val (.int p4), .val (.long q5), .second, .val (.int x0), .val (.int nr), .val (.int y2), .val (.int z2), .val (.int km), .val (.int a3), .val (.int b3), .val (.int c2), sl169_l15, .val (.ref b8), .val (.int (2 : Int32)), .val (.ref b48), .val (.ref b51), .val (.ref bm), .val (.int b3), .unset, .unset] [(.int (1 : Int32)), (.int (b3 / (8 : Int32))), (.int ((b3 / (8 : Int32)) + (1 : Int32)))]))
                    refine own_via (fun t k => XS.iadd X53.here hx rfl (hb hby at_340) rfl k) ?_
                    show OwnEnds p.tables e below _ (T53.setTop (mkF m 341 #[.val (.int p0), .val (.int p1), .val (.int p2), .val (.int p3), .val (.int p4), .val (.long q5), .second, .val (.int x0), .val (.int nr), .val (.int y2), .val (.int z2), .val (.int km), .val (.int a3), .val (.int b3), .val (.int c2), sl169_l15, .val (.ref b8), .val (.int (2 : Int32)), .val (.ref b48), .val (.ref b51), .val (.ref bm), .val (.int b3), .unset, .unset] [(.int ((b3 / (8 : Int32)) + (1 : Int32))), (.int ((b3 / (8 : Int32)) + (1 : Int32)))]))
                    have hc341_54 : ((b3 / (8 : Int32)) + (1 : Int32)) = ((b3 / (8 : Int32)) + (1 : Int32)) := rfl
                    refine own_via (fun t k => XS.icmpYes X53.here hx rfl (pc0 := 341) (pc' := 346) rfl (hb hby at_341) rfl (teq hc341_54).1 (by decide) (by decide) k) ?_
                    show OwnEnds p.tables e below _ (T53.setTop (mkF m 346 #[.val (.int p0), .val (.int p1), .val (.int p2), .val (.int p3), .val (.int p4), .val (.long q5), .second, .val (.int x0), .val (.int nr), .val (.int y2), .val (.int z2), .val (.int km), .val (.int a3), .val (.int b3), .val (.int c2), sl169_l15, .val (.ref b8), .val (.int (2 : Int32)), .val (.ref b48), .val (.ref b51), .val (.ref bm), .val (.int b3), .unset, .unset] []))
                    refine own_via (fun t k => XS.aload X53.here hx rfl (hb hby at_346) rfl rfl k) ?_
                    show OwnEnds p.tables e below _ (T53.setTop (mkF m 348 #[.val (.int p0), .val (.int p1), .val (.int p2), .val (.int p3), .val (.int p4), .val (.long q5), .second, .val (.int x0), .val (.int nr), .val (.int y2), .val (.int z2), .val (.int km), .val (.int a3), .val (.int b3), .val (.int c2), sl169_l15, .val (.ref b8), .val (.int (2 : Int32)), .val (.ref b48), .val (.ref b51), .val (.ref bm), .val (.int b3), .unset, .unset] [(.ref bm)]))
                    refine own_via (fun t k => XS.aload X53.here hx rfl (hb hby at_348) rfl rfl k) ?_
                    show OwnEnds p.tables e below _ (T53.setTop (mkF m 350 #[.val (.int p0), .val (.int p1), .val (.int p2), .val (.int p3), .val (.int p4), .val (.long q5), .second, .val (.int x0), .val (.int nr), .val (.int y2), .val (.int z2), .val (.int km), .val (.int a3), .val (.int b3), .val (.int c2), sl169_l15, .val (.ref b8), .val (.int (2 : Int32)), .val (.ref b48), .val (.ref b51), .val (.ref bm), .val (.int b3), .unset, .unset] [(.ref b8), (.ref bm)]))
                    refine own_via (fun t k => XS.iload X53.here hx rfl (hb hby at_350) rfl k) ?_
                    show OwnEnds p.tables e below _ (T53.setTop (mkF m 352 #[.val (.int p0), .val (.int p1), .val (.int p2), .val (.int p3), .val (.int p4), .val (.long q5), .second, .val (.int x0), .val (.int nr), .val (.int y2), .val (.int z2), .val (.int km), .val (.int a3), .val (.int b3), .val (.int c2), sl169_l15, .val (.ref b8), .val (.int (2 : Int32)), .val (.ref b48), .val (.ref b51), .val (.ref bm), .val (.int b3), .unset, .unset] [(.int (2 : Int32)), (.ref b8), (.ref bm)]))
                    refine own_via (fun t k => XS.aload X53.here hx rfl (hb hby at_352) rfl rfl k) ?_
                    show OwnEnds p.tables e below _ (T53.setTop (mkF m 354 #[.val (.int p0), .val (.int p1), .val (.int p2), .val (.int p3), .val (.int p4), .val (.long q5), .second, .val (.int x0), .val (.int nr), .val (.int y2), .val (.int z2), .val (.int km), .val (.int a3), .val (.int b3), .val (.int c2), sl169_l15, .val (.ref b8), .val (.int (2 : Int32)), .val (.ref b48), .val (.ref b51), .val (.ref bm), .val (.int b3), .unset, .unset] [(.ref b8), (.int (2 : Int32)), (.ref b8), (.ref bm)]))
                    refine own_via (fun t k => XS.iconst X53.here hx rfl (hb hby at_354) k) ?_
                    show OwnEnds p.tables e below _ (T53.setTop (mkF m 355 #[.val (.int p0), .val (.int p1), .val (.int p2), .val (.int p3), .val (.int p4), .val (.long q5), .second, .val (.int x0), .val (.int nr), .val (.int y2), .val (.int z2), .val (.int km), .val (.int a3), .val (.int b3), .val (.int c2), sl169_l15, .val (.ref b8), .val (.int (2 : Int32)), .val (.ref b48), .val (.ref b51), .val (.ref bm), .val (.int b3), .unset, .unset] [(.int (0 : Int32)), (.ref b8), (.int (2 : Int32)), (.ref b8), (.ref bm)]))
                    refine own_via (own_ldI X53 hx hZ e53 A_b8 (v := (.int a3)) 0 rfl rfl (g := (mkF m 355 #[.val (.int p0), .val (.int p1), .val (.int p2), .val (.int p3), .val (.int p4), .val (.long q5), .second, .val (.int x0), .val (.int nr), .val (.int y2), .val (.int z2), .val (.int km), .val (.int a3), .val (.int b3), .val (.int c2), sl169_l15, .val (.ref b8), .val (.int (2 : Int32)), .val (.ref b48), .val (.ref b51), .val (.ref bm), .val (.int b3), .unset, .unset] [(.int (0 : Int32)), (.ref b8), (.int (2 : Int32)), (.ref b8), (.ref bm)])) rfl rfl (hb hby at_355)) ?_
                    show OwnEnds p.tables e below _ (T53.setTop (mkF m 356 #[.val (.int p0), .val (.int p1), .val (.int p2), .val (.int p3), .val (.int p4), .val (.long q5), .second, .val (.int x0), .val (.int nr), .val (.int y2), .val (.int z2), .val (.int km), .val (.int a3), .val (.int b3), .val (.int c2), sl169_l15, .val (.ref b8), .val (.int (2 : Int32)), .val (.ref b48), .val (.ref b51), .val (.ref bm), .val (.int b3), .unset, .unset] [(.int a3), (.int (2 : Int32)), (.ref b8), (.ref bm)]))
                    refine own_via (fun t k => XS.bipush X53.here hx rfl (hb hby at_356) k) ?_
                    show OwnEnds p.tables e below _ (T53.setTop (mkF m 358 #[.val (.int p0), .val (.int p1), .val (.int p2), .val (.int p3), .val (.int p4), .val (.long q5), .second, .val (.int x0), .val (.int nr), .val (.int y2), .val (.int z2), .val (.int km), .val (.int a3), .val (.int b3), .val (.int c2), sl169_l15, .val (.ref b8), .val (.int (2 : Int32)), .val (.ref b48), .val (.ref b51), .val (.ref bm), .val (.int b3), .unset, .unset] [(.int (8 : Int32)), (.int a3), (.int (2 : Int32)), (.ref b8), (.ref bm)]))
                    refine own_via (fun t k => XS.idiv X53.here hx rfl (hb hby at_358) rfl (by decide) k) ?_
                    show OwnEnds p.tables e below _ (T53.setTop (mkF m 359 #[.val (.int p0), .val (.int p1), .val (.int p2), .val (.int p3), .val (.int p4), .val (.long q5), .second, .val (.int x0), .val (.int nr), .val (.int y2), .val (.int z2), .val (.int km), .val (.int a3), .val (.int b3), .val (.int c2), sl169_l15, .val (.ref b8), .val (.int (2 : Int32)), .val (.ref b48), .val (.ref b51), .val (.ref bm), .val (.int b3), .unset, .unset] [(.int (a3 / (8 : Int32))), (.int (2 : Int32)), (.ref b8), (.ref bm)]))
                    obtain ⟨_, _, ⟨T55, L55, k55, n55⟩, -, X55, ⟨Lc55, hQ55, l55, y55, z55⟩, st55⟩ := Jvm.LawKit.callS X53 hx (y := (⟨"com/example/crowd_cache/crowdcache/core/BucketToBitmapPinLaw", "checkAt", "([B[III)Z"⟩ : MethodName)) hown (mvT hZ (hw _ (List.mem_of_getElem? (i := 22) rfl))) (mvT hZ (hw _ (List.mem_of_getElem? (i := 23) rfl))) (mvT hZ (hw _ (List.mem_of_getElem? (i := 24) rfl))) (mvT hZ (hw _ (List.mem_of_getElem? (i := 25) rfl))) (by decide) (backOf (W := 0) (rm42 l Z aw hw [] bm b8 (a3 / (8 : Int32)) a3 b3 (0 : Int32) ((b3 / 8).toNatClampNeg + 1) ((a3 / (8 : Int32))).toNatClampNeg h53 n0 Zs_53 A_bm A_b8 (own_jd hr_a3 hr_b3 (hab)).1 (own_jd hr_a3 hr_b3 (hab)).2 hr_a3 hr_b3) hZ (hw _ (List.mem_of_getElem? (i := 25) rfl)) (hw _ (List.mem_of_getElem? (i := 24) rfl)) (by decide) (by decide)) (g := (mkF m 359 #[.val (.int p0), .val (.int p1), .val (.int p2), .val (.int p3), .val (.int p4), .val (.long q5), .second, .val (.int x0), .val (.int nr), .val (.int y2), .val (.int z2), .val (.int km), .val (.int a3), .val (.int b3), .val (.int c2), sl169_l15, .val (.ref b8), .val (.int (2 : Int32)), .val (.ref b48), .val (.ref b51), .val (.ref bm), .val (.int b3), .unset, .unset] [(.int (a3 / (8 : Int32))), (.int (2 : Int32)), (.ref b8), (.ref bm)])) rfl (by rw [hml]; rfl) (argsL := [(.ref bm), (.ref b8), (.int (2 : Int32)), (.int (a3 / (8 : Int32)))]) (rest := []) (lenOf pd_4 rfl) rfl (by show 2 * 0 + _ ≤ _; exact Nat.le_of_eq rfl) (hb hby at_359) (fun _ _ => ⟨rfl, e53, (by decide : 4 + 0 ≤ _), (by decide : 8199 + 0 ≤ _)⟩)
                    dsimp only [Pt.U, Pt.locs, Pt.cells, Pt.slots] at X55 l55 y55 z55 st55 hQ55
                    subst l55 y55 z55
                    obtain ⟨rfl, Nq55, e55⟩ := hQ55
                    have N55 := Fr.app N53 Nq55
                    replace e55 : T55.heap = h53 := e55
                    refine own_via st55 ?_
                    show OwnEnds p.tables e below _ (T55.setTop (mkF m 362 #[.val (.int p0), .val (.int p1), .val (.int p2), .val (.int p3), .val (.int p4), .val (.long q5), .second, .val (.int x0), .val (.int nr), .val (.int y2), .val (.int z2), .val (.int km), .val (.int a3), .val (.int b3), .val (.int c2), sl169_l15, .val (.ref b8), .val (.int (2 : Int32)), .val (.ref b48), .val (.ref b51), .val (.ref bm), .val (.int b3), .unset, .unset] [(.int (1 : Int32))]))
                    refine own_via (fun t k => XS.istore X55.here hx rfl (hb hby at_362) rfl (l' := #[.val (.int p0), .val (.int p1), .val (.int p2), .val (.int p3), .val (.int p4), .val (.long q5), .second, .val (.int x0), .val (.int nr), .val (.int y2), .val (.int z2), .val (.int km), .val (.int a3), .val (.int b3), .val (.int c2), sl169_l15, .val (.ref b8), .val (.int (2 : Int32)), .val (.ref b48), .val (.ref b51), .val (.ref bm), .val (.int b3), .val (.int (1 : Int32)), .unset]) rfl k) ?_
                    show OwnEnds p.tables e below _ (T55.setTop (mkF m 364 #[.val (.int p0), .val (.int p1), .val (.int p2), .val (.int p3), .val (.int p4), .val (.long q5), .second, .val (.int x0), .val (.int nr), .val (.int y2), .val (.int z2), .val (.int km), .val (.int a3), .val (.int b3), .val (.int c2), sl169_l15, .val (.ref b8), .val (.int (2 : Int32)), .val (.ref b48), .val (.ref b51), .val (.ref bm), .val (.int b3), .val (.int (1 : Int32)), .unset] []))
                    refine own_via (fun t k => XS.iload X55.here hx rfl (hb hby at_364) rfl k) ?_
                    show OwnEnds p.tables e below _ (T55.setTop (mkF m 366 #[.val (.int p0), .val (.int p1), .val (.int p2), .val (.int p3), .val (.int p4), .val (.long q5), .second, .val (.int x0), .val (.int nr), .val (.int y2), .val (.int z2), .val (.int km), .val (.int a3), .val (.int b3), .val (.int c2), sl169_l15, .val (.ref b8), .val (.int (2 : Int32)), .val (.ref b48), .val (.ref b51), .val (.ref bm), .val (.int b3), .val (.int (1 : Int32)), .unset] [(.int (2 : Int32))]))
                    refine own_via (fun t k => XS.iconst X55.here hx rfl (hb hby at_366) k) ?_
                    show OwnEnds p.tables e below _ (T55.setTop (mkF m 367 #[.val (.int p0), .val (.int p1), .val (.int p2), .val (.int p3), .val (.int p4), .val (.long q5), .second, .val (.int x0), .val (.int nr), .val (.int y2), .val (.int z2), .val (.int km), .val (.int a3), .val (.int b3), .val (.int c2), sl169_l15, .val (.ref b8), .val (.int (2 : Int32)), .val (.ref b48), .val (.ref b51), .val (.ref bm), .val (.int b3), .val (.int (1 : Int32)), .unset] [(.int (2 : Int32)), (.int (2 : Int32))]))
                    have hc367_56 : ¬ ((2 : Int32) < (2 : Int32)) := by decide
                    refine own_via (fun t k => XS.icmpNo X55.here hx rfl (hb hby at_367) rfl (flt hc367_56).1 k) ?_
                    show OwnEnds p.tables e below _ (T55.setTop (mkF m 370 #[.val (.int p0), .val (.int p1), .val (.int p2), .val (.int p3), .val (.int p4), .val (.long q5), .second, .val (.int x0), .val (.int nr), .val (.int y2), .val (.int z2), .val (.int km), .val (.int a3), .val (.int b3), .val (.int c2), sl169_l15, .val (.ref b8), .val (.int (2 : Int32)), .val (.ref b48), .val (.ref b51), .val (.ref bm), .val (.int b3), .val (.int (1 : Int32)), .unset] []))
                    refine own_via (fun t k => XS.iload X55.here hx rfl (hb hby at_370) rfl k) ?_
                    show OwnEnds p.tables e below _ (T55.setTop (mkF m 372 #[.val (.int p0), .val (.int p1), .val (.int p2), .val (.int p3), .val (.int p4), .val (.long q5), .second, .val (.int x0), .val (.int nr), .val (.int y2), .val (.int z2), .val (.int km), .val (.int a3), .val (.int b3), .val (.int c2), sl169_l15, .val (.ref b8), .val (.int (2 : Int32)), .val (.ref b48), .val (.ref b51), .val (.ref bm), .val (.int b3), .val (.int (1 : Int32)), .unset] [(.int (1 : Int32))]))
                    have hc372_57 : ¬ ((1 : Int32) = (0 : Int32)) := by decide
                    refine own_via (fun t k => XS.ifNo X55.here hx rfl (hb hby at_372) rfl ((if0 _ _).trans (feq hc372_57).1) k) ?_
                    show OwnEnds p.tables e below _ (T55.setTop (mkF m 375 #[.val (.int p0), .val (.int p1), .val (.int p2), .val (.int p3), .val (.int p4), .val (.long q5), .second, .val (.int x0), .val (.int nr), .val (.int y2), .val (.int z2), .val (.int km), .val (.int a3), .val (.int b3), .val (.int c2), sl169_l15, .val (.ref b8), .val (.int (2 : Int32)), .val (.ref b48), .val (.ref b51), .val (.ref bm), .val (.int b3), .val (.int (1 : Int32)), .unset] []))
                    refine own_via (fun t k => XS.aload X55.here hx rfl (hb hby at_375) rfl rfl k) ?_
                    show OwnEnds p.tables e below _ (T55.setTop (mkF m 377 #[.val (.int p0), .val (.int p1), .val (.int p2), .val (.int p3), .val (.int p4), .val (.long q5), .second, .val (.int x0), .val (.int nr), .val (.int y2), .val (.int z2), .val (.int km), .val (.int a3), .val (.int b3), .val (.int c2), sl169_l15, .val (.ref b8), .val (.int (2 : Int32)), .val (.ref b48), .val (.ref b51), .val (.ref bm), .val (.int b3), .val (.int (1 : Int32)), .unset] [(.ref bm)]))
                    refine own_via (fun t k => XS.aload X55.here hx rfl (hb hby at_377) rfl rfl k) ?_
                    show OwnEnds p.tables e below _ (T55.setTop (mkF m 379 #[.val (.int p0), .val (.int p1), .val (.int p2), .val (.int p3), .val (.int p4), .val (.long q5), .second, .val (.int x0), .val (.int nr), .val (.int y2), .val (.int z2), .val (.int km), .val (.int a3), .val (.int b3), .val (.int c2), sl169_l15, .val (.ref b8), .val (.int (2 : Int32)), .val (.ref b48), .val (.ref b51), .val (.ref bm), .val (.int b3), .val (.int (1 : Int32)), .unset] [(.ref b8), (.ref bm)]))
                    refine own_via (fun t k => XS.iload X55.here hx rfl (hb hby at_379) rfl k) ?_
                    show OwnEnds p.tables e below _ (T55.setTop (mkF m 381 #[.val (.int p0), .val (.int p1), .val (.int p2), .val (.int p3), .val (.int p4), .val (.long q5), .second, .val (.int x0), .val (.int nr), .val (.int y2), .val (.int z2), .val (.int km), .val (.int a3), .val (.int b3), .val (.int c2), sl169_l15, .val (.ref b8), .val (.int (2 : Int32)), .val (.ref b48), .val (.ref b51), .val (.ref bm), .val (.int b3), .val (.int (1 : Int32)), .unset] [(.int (2 : Int32)), (.ref b8), (.ref bm)]))
                    refine own_via (fun t k => XS.aload X55.here hx rfl (hb hby at_381) rfl rfl k) ?_
                    show OwnEnds p.tables e below _ (T55.setTop (mkF m 383 #[.val (.int p0), .val (.int p1), .val (.int p2), .val (.int p3), .val (.int p4), .val (.long q5), .second, .val (.int x0), .val (.int nr), .val (.int y2), .val (.int z2), .val (.int km), .val (.int a3), .val (.int b3), .val (.int c2), sl169_l15, .val (.ref b8), .val (.int (2 : Int32)), .val (.ref b48), .val (.ref b51), .val (.ref bm), .val (.int b3), .val (.int (1 : Int32)), .unset] [(.ref b8), (.int (2 : Int32)), (.ref b8), (.ref bm)]))
                    refine own_via (fun t k => XS.iconst X55.here hx rfl (hb hby at_383) k) ?_
                    show OwnEnds p.tables e below _ (T55.setTop (mkF m 384 #[.val (.int p0), .val (.int p1), .val (.int p2), .val (.int p3), .val (.int p4), .val (.long q5), .second, .val (.int x0), .val (.int nr), .val (.int y2), .val (.int z2), .val (.int km), .val (.int a3), .val (.int b3), .val (.int c2), sl169_l15, .val (.ref b8), .val (.int (2 : Int32)), .val (.ref b48), .val (.ref b51), .val (.ref bm), .val (.int b3), .val (.int (1 : Int32)), .unset] [(.int (1 : Int32)), (.ref b8), (.int (2 : Int32)), (.ref b8), (.ref bm)]))
                    refine own_via (own_ldI X55 hx hZ e55 A_b8 (v := (.int b3)) 1 rfl rfl (g := (mkF m 384 #[.val (.int p0), .val (.int p1), .val (.int p2), .val (.int p3), .val (.int p4), .val (.long q5), .second, .val (.int x0), .val (.int nr), .val (.int y2), .val (.int z2), .val (.int km), .val (.int a3), .val (.int b3), .val (.int c2), sl169_l15, .val (.ref b8), .val (.int (2 : Int32)), .val (.ref b48), .val (.ref b51), .val (.ref bm), .val (.int b3), .val (.int (1 : Int32)), .unset] [(.int (1 : Int32)), (.ref b8), (.int (2 : Int32)), (.ref b8), (.ref bm)])) rfl rfl (hb hby at_384)) ?_
                    show OwnEnds p.tables e below _ (T55.setTop (mkF m 385 #[.val (.int p0), .val (.int p1), .val (.int p2), .val (.int p3), .val (.int p4), .val (.long q5), .second, .val (.int x0), .val (.int nr), .val (.int y2), .val (.int z2), .val (.int km), .val (.int a3), .val (.int b3), .val (.int c2), sl169_l15, .val (.ref b8), .val (.int (2 : Int32)), .val (.ref b48), .val (.ref b51), .val (.ref bm), .val (.int b3), .val (.int (1 : Int32)), .unset] [(.int b3), (.int (2 : Int32)), (.ref b8), (.ref bm)]))
                    refine own_via (fun t k => XS.bipush X55.here hx rfl (hb hby at_385) k) ?_
                    show OwnEnds p.tables e below _ (T55.setTop (mkF m 387 #[.val (.int p0), .val (.int p1), .val (.int p2), .val (.int p3), .val (.int p4), .val (.long q5), .second, .val (.int x0), .val (.int nr), .val (.int y2), .val (.int z2), .val (.int km), .val (.int a3), .val (.int b3), .val (.int c2), sl169_l15, .val (.ref b8), .val (.int (2 : Int32)), .val (.ref b48), .val (.ref b51), .val (.ref bm), .val (.int b3), .val (.int (1 : Int32)), .unset] [(.int (8 : Int32)), (.int b3), (.int (2 : Int32)), (.ref b8), (.ref bm)]))
                    refine own_via (fun t k => XS.idiv X55.here hx rfl (hb hby at_387) rfl (by decide) k) ?_
                    show OwnEnds p.tables e below _ (T55.setTop (mkF m 388 #[.val (.int p0), .val (.int p1), .val (.int p2), .val (.int p3), .val (.int p4), .val (.long q5), .second, .val (.int x0), .val (.int nr), .val (.int y2), .val (.int z2), .val (.int km), .val (.int a3), .val (.int b3), .val (.int c2), sl169_l15, .val (.ref b8), .val (.int (2 : Int32)), .val (.ref b48), .val (.ref b51), .val (.ref bm), .val (.int b3), .val (.int (1 : Int32)), .unset] [(.int (b3 / (8 : Int32))), (.int (2 : Int32)), (.ref b8), (.ref bm)]))
                    obtain ⟨_, _, ⟨T58, L58, k58, n58⟩, -, X58, ⟨Lc58, hQ58, l58, y58, z58⟩, st58⟩ := Jvm.LawKit.callS X55 hx (y := (⟨"com/example/crowd_cache/crowdcache/core/BucketToBitmapPinLaw", "checkAt", "([B[III)Z"⟩ : MethodName)) hown (mvT hZ (hw _ (List.mem_of_getElem? (i := 22) rfl))) (mvT hZ (hw _ (List.mem_of_getElem? (i := 23) rfl))) (mvT hZ (hw _ (List.mem_of_getElem? (i := 24) rfl))) (mvT hZ (hw _ (List.mem_of_getElem? (i := 25) rfl))) (by decide) (backOf (W := 0) (rm42 l Z aw hw [] bm b8 (b3 / (8 : Int32)) a3 b3 (0 : Int32) ((b3 / 8).toNatClampNeg + 1) ((b3 / (8 : Int32))).toNatClampNeg h53 n0 Zs_53 A_bm A_b8 (own_jd hr_b3 hr_b3 (Int.le_refl _)).1 (own_jd hr_b3 hr_b3 (Int.le_refl _)).2 hr_a3 hr_b3) hZ (hw _ (List.mem_of_getElem? (i := 25) rfl)) (hw _ (List.mem_of_getElem? (i := 24) rfl)) (by decide) (by decide)) (g := (mkF m 388 #[.val (.int p0), .val (.int p1), .val (.int p2), .val (.int p3), .val (.int p4), .val (.long q5), .second, .val (.int x0), .val (.int nr), .val (.int y2), .val (.int z2), .val (.int km), .val (.int a3), .val (.int b3), .val (.int c2), sl169_l15, .val (.ref b8), .val (.int (2 : Int32)), .val (.ref b48), .val (.ref b51), .val (.ref bm), .val (.int b3), .val (.int (1 : Int32)), .unset] [(.int (b3 / (8 : Int32))), (.int (2 : Int32)), (.ref b8), (.ref bm)])) rfl (by rw [hml]; rfl) (argsL := [(.ref bm), (.ref b8), (.int (2 : Int32)), (.int (b3 / (8 : Int32)))]) (rest := []) (lenOf pd_4 rfl) rfl (by show 2 * 0 + _ ≤ _; exact Nat.le_of_eq rfl) (hb hby at_388) (fun _ _ => ⟨rfl, e55, (by decide : 4 + 0 ≤ _), (by decide : 8199 + 0 ≤ _)⟩)
                    dsimp only [Pt.U, Pt.locs, Pt.cells, Pt.slots] at X58 l58 y58 z58 st58 hQ58
                    subst l58 y58 z58
                    obtain ⟨rfl, Nq58, e58⟩ := hQ58
                    have N58 := Fr.app N55 Nq58
                    replace e58 : T58.heap = h53 := e58
                    refine own_via st58 ?_
                    show OwnEnds p.tables e below _ (T58.setTop (mkF m 391 #[.val (.int p0), .val (.int p1), .val (.int p2), .val (.int p3), .val (.int p4), .val (.long q5), .second, .val (.int x0), .val (.int nr), .val (.int y2), .val (.int z2), .val (.int km), .val (.int a3), .val (.int b3), .val (.int c2), sl169_l15, .val (.ref b8), .val (.int (2 : Int32)), .val (.ref b48), .val (.ref b51), .val (.ref bm), .val (.int b3), .val (.int (1 : Int32)), .unset] [(.int (1 : Int32))]))
                    have hc391_59 : ¬ ((1 : Int32) = (0 : Int32)) := by decide
                    refine own_via (fun t k => XS.ifNo X58.here hx rfl (hb hby at_391) rfl ((if0 _ _).trans (feq hc391_59).1) k) ?_
                    show OwnEnds p.tables e below _ (T58.setTop (mkF m 394 #[.val (.int p0), .val (.int p1), .val (.int p2), .val (.int p3), .val (.int p4), .val (.long q5), .second, .val (.int x0), .val (.int nr), .val (.int y2), .val (.int z2), .val (.int km), .val (.int a3), .val (.int b3), .val (.int c2), sl169_l15, .val (.ref b8), .val (.int (2 : Int32)), .val (.ref b48), .val (.ref b51), .val (.ref bm), .val (.int b3), .val (.int (1 : Int32)), .unset] []))
                    refine own_via (fun t k => XS.iconst X58.here hx rfl (hb hby at_394) k) ?_
                    show OwnEnds p.tables e below _ (T58.setTop (mkF m 395 #[.val (.int p0), .val (.int p1), .val (.int p2), .val (.int p3), .val (.int p4), .val (.long q5), .second, .val (.int x0), .val (.int nr), .val (.int y2), .val (.int z2), .val (.int km), .val (.int a3), .val (.int b3), .val (.int c2), sl169_l15, .val (.ref b8), .val (.int (2 : Int32)), .val (.ref b48), .val (.ref b51), .val (.ref bm), .val (.int b3), .val (.int (1 : Int32)), .unset] [(.int (1 : Int32))]))
                    refine own_via (fun t k => XS.goto X58.here hx rfl (pc0 := 395) (pc' := 399) rfl (hb hby at_395) (by decide) (by decide) k) ?_
                    show OwnEnds p.tables e below _ (T58.setTop (mkF m 399 #[.val (.int p0), .val (.int p1), .val (.int p2), .val (.int p3), .val (.int p4), .val (.long q5), .second, .val (.int x0), .val (.int nr), .val (.int y2), .val (.int z2), .val (.int km), .val (.int a3), .val (.int b3), .val (.int c2), sl169_l15, .val (.ref b8), .val (.int (2 : Int32)), .val (.ref b48), .val (.ref b51), .val (.ref bm), .val (.int b3), .val (.int (1 : Int32)), .unset] [(.int (1 : Int32))]))
                    refine own_via (fun t k => XS.istore X58.here hx rfl (hb hby at_399) rfl (l' := #[.val (.int p0), .val (.int p1), .val (.int p2), .val (.int p3), .val (.int p4), .val (.long q5), .second, .val (.int x0), .val (.int nr), .val (.int y2), .val (.int z2), .val (.int km), .val (.int a3), .val (.int b3), .val (.int c2), sl169_l15, .val (.ref b8), .val (.int (2 : Int32)), .val (.ref b48), .val (.ref b51), .val (.ref bm), .val (.int b3), .val (.int (1 : Int32)), .unset]) rfl k) ?_
                    show OwnEnds p.tables e below _ (T58.setTop (mkF m 401 #[.val (.int p0), .val (.int p1), .val (.int p2), .val (.int p3), .val (.int p4), .val (.long q5), .second, .val (.int x0), .val (.int nr), .val (.int y2), .val (.int z2), .val (.int km), .val (.int a3), .val (.int b3), .val (.int c2), sl169_l15, .val (.ref b8), .val (.int (2 : Int32)), .val (.ref b48), .val (.ref b51), .val (.ref bm), .val (.int b3), .val (.int (1 : Int32)), .unset] []))
                    refine own_via (fun t k => XS.iload X58.here hx rfl (hb hby at_401) rfl k) ?_
                    show OwnEnds p.tables e below _ (T58.setTop (mkF m 403 #[.val (.int p0), .val (.int p1), .val (.int p2), .val (.int p3), .val (.int p4), .val (.long q5), .second, .val (.int x0), .val (.int nr), .val (.int y2), .val (.int z2), .val (.int km), .val (.int a3), .val (.int b3), .val (.int c2), sl169_l15, .val (.ref b8), .val (.int (2 : Int32)), .val (.ref b48), .val (.ref b51), .val (.ref bm), .val (.int b3), .val (.int (1 : Int32)), .unset] [(.int (2 : Int32))]))
                    refine own_via (fun t k => XS.iconst X58.here hx rfl (hb hby at_403) k) ?_
                    show OwnEnds p.tables e below _ (T58.setTop (mkF m 404 #[.val (.int p0), .val (.int p1), .val (.int p2), .val (.int p3), .val (.int p4), .val (.long q5), .second, .val (.int x0), .val (.int nr), .val (.int y2), .val (.int z2), .val (.int km), .val (.int a3), .val (.int b3), .val (.int c2), sl169_l15, .val (.ref b8), .val (.int (2 : Int32)), .val (.ref b48), .val (.ref b51), .val (.ref bm), .val (.int b3), .val (.int (1 : Int32)), .unset] [(.int (3 : Int32)), (.int (2 : Int32))]))
                    have hc404_60 : (2 : Int32) < (3 : Int32) := by decide
                    refine own_via (fun t k => XS.icmpYes X58.here hx rfl (pc0 := 404) (pc' := 438) rfl (hb hby at_404) rfl (tlt hc404_60).1 (by decide) (by decide) k) ?_
                    show OwnEnds p.tables e below _ (T58.setTop (mkF m 438 #[.val (.int p0), .val (.int p1), .val (.int p2), .val (.int p3), .val (.int p4), .val (.long q5), .second, .val (.int x0), .val (.int nr), .val (.int y2), .val (.int z2), .val (.int km), .val (.int a3), .val (.int b3), .val (.int c2), sl169_l15, .val (.ref b8), .val (.int (2 : Int32)), .val (.ref b48), .val (.ref b51), .val (.ref bm), .val (.int b3), .val (.int (1 : Int32)), .unset] []))
                    refine own_via (fun t k => XS.iload X58.here hx rfl (hb hby at_438) rfl k) ?_
                    show OwnEnds p.tables e below _ (T58.setTop (mkF m 440 #[.val (.int p0), .val (.int p1), .val (.int p2), .val (.int p3), .val (.int p4), .val (.long q5), .second, .val (.int x0), .val (.int nr), .val (.int y2), .val (.int z2), .val (.int km), .val (.int a3), .val (.int b3), .val (.int c2), sl169_l15, .val (.ref b8), .val (.int (2 : Int32)), .val (.ref b48), .val (.ref b51), .val (.ref bm), .val (.int b3), .val (.int (1 : Int32)), .unset] [(.int p4)]))
                    refine own_via (X58.ldcInt hx hown (mvT hZ (hw _ (List.mem_of_getElem? (i := 32) rfl))) (g := (mkF m 440 #[.val (.int p0), .val (.int p1), .val (.int p2), .val (.int p3), .val (.int p4), .val (.long q5), .second, .val (.int x0), .val (.int nr), .val (.int y2), .val (.int z2), .val (.int km), .val (.int a3), .val (.int b3), .val (.int c2), sl169_l15, .val (.ref b8), .val (.int (2 : Int32)), .val (.ref b48), .val (.ref b51), .val (.ref bm), .val (.int b3), .val (.int (1 : Int32)), .unset] [(.int p4)])) rfl (hb hby at_440)) ?_
                    show OwnEnds p.tables e below _ (T58.setTop (mkF m 442 #[.val (.int p0), .val (.int p1), .val (.int p2), .val (.int p3), .val (.int p4), .val (.long q5), .second, .val (.int x0), .val (.int nr), .val (.int y2), .val (.int z2), .val (.int km), .val (.int a3), .val (.int b3), .val (.int c2), sl169_l15, .val (.ref b8), .val (.int (2 : Int32)), .val (.ref b48), .val (.ref b51), .val (.ref bm), .val (.int b3), .val (.int (1 : Int32)), .unset] [(.int (2147483647 : Int32)), (.int p4)]))
                    refine own_via (fun t k => XS.iand X58.here hx rfl (hb hby at_442) rfl k) ?_
                    show OwnEnds p.tables e below _ (T58.setTop (mkF m 443 #[.val (.int p0), .val (.int p1), .val (.int p2), .val (.int p3), .val (.int p4), .val (.long q5), .second, .val (.int x0), .val (.int nr), .val (.int y2), .val (.int z2), .val (.int km), .val (.int a3), .val (.int b3), .val (.int c2), sl169_l15, .val (.ref b8), .val (.int (2 : Int32)), .val (.ref b48), .val (.ref b51), .val (.ref bm), .val (.int b3), .val (.int (1 : Int32)), .unset] [(.int (p4 &&& (2147483647 : Int32)))]))
                    refine own_via (fun t k => XS.aload X58.here hx rfl (hb hby at_443) rfl rfl k) ?_
                    show OwnEnds p.tables e below _ (T58.setTop (mkF m 445 #[.val (.int p0), .val (.int p1), .val (.int p2), .val (.int p3), .val (.int p4), .val (.long q5), .second, .val (.int x0), .val (.int nr), .val (.int y2), .val (.int z2), .val (.int km), .val (.int a3), .val (.int b3), .val (.int c2), sl169_l15, .val (.ref b8), .val (.int (2 : Int32)), .val (.ref b48), .val (.ref b51), .val (.ref bm), .val (.int b3), .val (.int (1 : Int32)), .unset] [(.ref bm), (.int (p4 &&& (2147483647 : Int32)))]))
                    refine own_via (own_len X58 hx hZ e58 A_bm (z := ((b3 / (8 : Int32)) + (1 : Int32))) (by rw [own_bll]; exact (own_tl hr_b3).1) (g := (mkF m 445 #[.val (.int p0), .val (.int p1), .val (.int p2), .val (.int p3), .val (.int p4), .val (.long q5), .second, .val (.int x0), .val (.int nr), .val (.int y2), .val (.int z2), .val (.int km), .val (.int a3), .val (.int b3), .val (.int c2), sl169_l15, .val (.ref b8), .val (.int (2 : Int32)), .val (.ref b48), .val (.ref b51), .val (.ref bm), .val (.int b3), .val (.int (1 : Int32)), .unset] [(.ref bm), (.int (p4 &&& (2147483647 : Int32)))])) rfl rfl (hb hby at_445)) ?_
                    show OwnEnds p.tables e below _ (T58.setTop (mkF m 446 #[.val (.int p0), .val (.int p1), .val (.int p2), .val (.int p3), .val (.int p4), .val (.long q5), .second, .val (.int x0), .val (.int nr), .val (.int y2), .val (.int z2), .val (.int km), .val (.int a3), .val (.int b3), .val (.int c2), sl169_l15, .val (.ref b8), .val (.int (2 : Int32)), .val (.ref b48), .val (.ref b51), .val (.ref bm), .val (.int b3), .val (.int (1 : Int32)), .unset] [(.int ((b3 / (8 : Int32)) + (1 : Int32))), (.int (p4 &&& (2147483647 : Int32)))]))
                    refine own_via (fun t k => Jvm.RoadKit.iremM X58 hx rfl (hb hby at_446) rfl (own_nz hr_b3) k) ?_
                    show OwnEnds p.tables e below _ (T58.setTop (mkF m 447 #[.val (.int p0), .val (.int p1), .val (.int p2), .val (.int p3), .val (.int p4), .val (.long q5), .second, .val (.int x0), .val (.int nr), .val (.int y2), .val (.int z2), .val (.int km), .val (.int a3), .val (.int b3), .val (.int c2), sl169_l15, .val (.ref b8), .val (.int (2 : Int32)), .val (.ref b48), .val (.ref b51), .val (.ref bm), .val (.int b3), .val (.int (1 : Int32)), .unset] [(.int ((p4 &&& (2147483647 : Int32)) % ((b3 / (8 : Int32)) + (1 : Int32))))]))
                    obtain ⟨jj, h_jj⟩ : ∃ z, z = ((p4 &&& (2147483647 : Int32)) % ((b3 / (8 : Int32)) + (1 : Int32))) := ⟨_, rfl⟩
                    rw [← h_jj]
                    refine own_via (fun t k => XS.istore X58.here hx rfl (hb hby at_447) rfl (l' := #[.val (.int p0), .val (.int p1), .val (.int p2), .val (.int p3), .val (.int p4), .val (.long q5), .second, .val (.int x0), .val (.int nr), .val (.int y2), .val (.int z2), .val (.int km), .val (.int a3), .val (.int b3), .val (.int c2), sl169_l15, .val (.ref b8), .val (.int (2 : Int32)), .val (.ref b48), .val (.ref b51), .val (.ref bm), .val (.int b3), .val (.int (1 : Int32)), .val (.int jj)]) rfl k) ?_
                    show OwnEnds p.tables e below _ (T58.setTop (mkF m 449 #[.val (.int p0), .val (.int p1), .val (.int p2), .val (.int p3), .val (.int p4), .val (.long q5), .second, .val (.int x0), .val (.int nr), .val (.int y2), .val (.int z2), .val (.int km), .val (.int a3), .val (.int b3), .val (.int c2), sl169_l15, .val (.ref b8), .val (.int (2 : Int32)), .val (.ref b48), .val (.ref b51), .val (.ref bm), .val (.int b3), .val (.int (1 : Int32)), .val (.int jj)] []))
                    refine own_via (fun t k => XS.iload X58.here hx rfl (hb hby at_449) rfl k) ?_
                    show OwnEnds p.tables e below _ (T58.setTop (mkF m 451 #[.val (.int p0), .val (.int p1), .val (.int p2), .val (.int p3), .val (.int p4), .val (.long q5), .second, .val (.int x0), .val (.int nr), .val (.int y2), .val (.int z2), .val (.int km), .val (.int a3), .val (.int b3), .val (.int c2), sl169_l15, .val (.ref b8), .val (.int (2 : Int32)), .val (.ref b48), .val (.ref b51), .val (.ref bm), .val (.int b3), .val (.int (1 : Int32)), .val (.int jj)] [(.int (1 : Int32))]))
                    have hc451_61 : ¬ ((1 : Int32) = (0 : Int32)) := by decide
                    refine own_via (fun t k => XS.ifNo X58.here hx rfl (hb hby at_451) rfl ((if0 _ _).trans (feq hc451_61).1) k) ?_
                    show OwnEnds p.tables e below _ (T58.setTop (mkF m 454 #[.val (.int p0), .val (.int p1), .val (.int p2), .val (.int p3), .val (.int p4), .val (.long q5), .second, .val (.int x0), .val (.int nr), .val (.int y2), .val (.int z2), .val (.int km), .val (.int a3), .val (.int b3), .val (.int c2), sl169_l15, .val (.ref b8), .val (.int (2 : Int32)), .val (.ref b48), .val (.ref b51), .val (.ref bm), .val (.int b3), .val (.int (1 : Int32)), .val (.int jj)] []))
                    refine own_via (fun t k => XS.aload X58.here hx rfl (hb hby at_454) rfl rfl k) ?_
                    show OwnEnds p.tables e below _ (T58.setTop (mkF m 456 #[.val (.int p0), .val (.int p1), .val (.int p2), .val (.int p3), .val (.int p4), .val (.long q5), .second, .val (.int x0), .val (.int nr), .val (.int y2), .val (.int z2), .val (.int km), .val (.int a3), .val (.int b3), .val (.int c2), sl169_l15, .val (.ref b8), .val (.int (2 : Int32)), .val (.ref b48), .val (.ref b51), .val (.ref bm), .val (.int b3), .val (.int (1 : Int32)), .val (.int jj)] [(.ref bm)]))
                    refine own_via (fun t k => XS.aload X58.here hx rfl (hb hby at_456) rfl rfl k) ?_
                    show OwnEnds p.tables e below _ (T58.setTop (mkF m 458 #[.val (.int p0), .val (.int p1), .val (.int p2), .val (.int p3), .val (.int p4), .val (.long q5), .second, .val (.int x0), .val (.int nr), .val (.int y2), .val (.int z2), .val (.int km), .val (.int a3), .val (.int b3), .val (.int c2), sl169_l15, .val (.ref b8), .val (.int (2 : Int32)), .val (.ref b48), .val (.ref b51), .val (.ref bm), .val (.int b3), .val (.int (1 : Int32)), .val (.int jj)] [(.ref b8), (.ref bm)]))
                    refine own_via (fun t k => XS.iload X58.here hx rfl (hb hby at_458) rfl k) ?_
                    show OwnEnds p.tables e below _ (T58.setTop (mkF m 460 #[.val (.int p0), .val (.int p1), .val (.int p2), .val (.int p3), .val (.int p4), .val (.long q5), .second, .val (.int x0), .val (.int nr), .val (.int y2), .val (.int z2), .val (.int km), .val (.int a3), .val (.int b3), .val (.int c2), sl169_l15, .val (.ref b8), .val (.int (2 : Int32)), .val (.ref b48), .val (.ref b51), .val (.ref bm), .val (.int b3), .val (.int (1 : Int32)), .val (.int jj)] [(.int (2 : Int32)), (.ref b8), (.ref bm)]))
                    refine own_via (fun t k => XS.iload X58.here hx rfl (hb hby at_460) rfl k) ?_
                    show OwnEnds p.tables e below _ (T58.setTop (mkF m 462 #[.val (.int p0), .val (.int p1), .val (.int p2), .val (.int p3), .val (.int p4), .val (.long q5), .second, .val (.int x0), .val (.int nr), .val (.int y2), .val (.int z2), .val (.int km), .val (.int a3), .val (.int b3), .val (.int c2), sl169_l15, .val (.ref b8), .val (.int (2 : Int32)), .val (.ref b48), .val (.ref b51), .val (.ref bm), .val (.int b3), .val (.int (1 : Int32)), .val (.int jj)] [(.int jj), (.int (2 : Int32)), (.ref b8), (.ref bm)]))
                    obtain ⟨_, _, ⟨T62, L62, k62, n62⟩, -, X62, ⟨Lc62, hQ62, l62, y62, z62⟩, st62⟩ := Jvm.LawKit.callS X58 hx (y := (⟨"com/example/crowd_cache/crowdcache/core/BucketToBitmapPinLaw", "checkAt", "([B[III)Z"⟩ : MethodName)) hown (mvT hZ (hw _ (List.mem_of_getElem? (i := 22) rfl))) (mvT hZ (hw _ (List.mem_of_getElem? (i := 23) rfl))) (mvT hZ (hw _ (List.mem_of_getElem? (i := 24) rfl))) (mvT hZ (hw _ (List.mem_of_getElem? (i := 25) rfl))) (by decide) (backOf (W := 0) (rm42 l Z aw hw [] bm b8 jj a3 b3 (0 : Int32) ((b3 / 8).toNatClampNeg + 1) (jj).toNatClampNeg h53 n0 Zs_53 A_bm A_b8 (own_jj hr_b3 h_jj).1 (own_jj hr_b3 h_jj).2 hr_a3 hr_b3) hZ (hw _ (List.mem_of_getElem? (i := 25) rfl)) (hw _ (List.mem_of_getElem? (i := 24) rfl)) (by decide) (by decide)) (g := (mkF m 462 #[.val (.int p0), .val (.int p1), .val (.int p2), .val (.int p3), .val (.int p4), .val (.long q5), .second, .val (.int x0), .val (.int nr), .val (.int y2), .val (.int z2), .val (.int km), .val (.int a3), .val (.int b3), .val (.int c2), sl169_l15, .val (.ref b8), .val (.int (2 : Int32)), .val (.ref b48), .val (.ref b51), .val (.ref bm), .val (.int b3), .val (.int (1 : Int32)), .val (.int jj)] [(.int jj), (.int (2 : Int32)), (.ref b8), (.ref bm)])) rfl (by rw [hml]; rfl) (argsL := [(.ref bm), (.ref b8), (.int (2 : Int32)), (.int jj)]) (rest := []) (lenOf pd_4 rfl) rfl (by show 2 * 0 + _ ≤ _; exact Nat.le_of_eq rfl) (hb hby at_462) (fun _ _ => ⟨rfl, e58, (by decide : 4 + 0 ≤ _), (by decide : 8199 + 0 ≤ _)⟩)
                    dsimp only [Pt.U, Pt.locs, Pt.cells, Pt.slots] at X62 l62 y62 z62 st62 hQ62
                    subst l62 y62 z62
                    obtain ⟨rfl, Nq62, e62⟩ := hQ62
                    have N62 := Fr.app N58 Nq62
                    replace e62 : T62.heap = h53 := e62
                    refine own_via st62 ?_
                    show OwnEnds p.tables e below _ (T62.setTop (mkF m 465 #[.val (.int p0), .val (.int p1), .val (.int p2), .val (.int p3), .val (.int p4), .val (.long q5), .second, .val (.int x0), .val (.int nr), .val (.int y2), .val (.int z2), .val (.int km), .val (.int a3), .val (.int b3), .val (.int c2), sl169_l15, .val (.ref b8), .val (.int (2 : Int32)), .val (.ref b48), .val (.ref b51), .val (.ref bm), .val (.int b3), .val (.int (1 : Int32)), .val (.int jj)] [(.int (1 : Int32))]))
                    have hc465_63 : ¬ ((1 : Int32) = (0 : Int32)) := by decide
                    refine own_via (fun t k => XS.ifNo X62.here hx rfl (hb hby at_465) rfl ((if0 _ _).trans (feq hc465_63).1) k) ?_
                    show OwnEnds p.tables e below _ (T62.setTop (mkF m 468 #[.val (.int p0), .val (.int p1), .val (.int p2), .val (.int p3), .val (.int p4), .val (.long q5), .second, .val (.int x0), .val (.int nr), .val (.int y2), .val (.int z2), .val (.int km), .val (.int a3), .val (.int b3), .val (.int c2), sl169_l15, .val (.ref b8), .val (.int (2 : Int32)), .val (.ref b48), .val (.ref b51), .val (.ref bm), .val (.int b3), .val (.int (1 : Int32)), .val (.int jj)] []))
                    refine own_via (fun t k => XS.iconst X62.here hx rfl (hb hby at_468) k) ?_
                    show OwnEnds p.tables e below _ (T62.setTop (mkF m 469 #[.val (.int p0), .val (.int p1), .val (.int p2), .val (.int p3), .val (.int p4), .val (.long q5), .second, .val (.int x0), .val (.int nr), .val (.int y2), .val (.int z2), .val (.int km), .val (.int a3), .val (.int b3), .val (.int c2), sl169_l15, .val (.ref b8), .val (.int (2 : Int32)), .val (.ref b48), .val (.ref b51), .val (.ref bm), .val (.int b3), .val (.int (1 : Int32)), .val (.int jj)] [(.int (1 : Int32))]))
                    refine own_via (fun t k => XS.goto X62.here hx rfl (pc0 := 469) (pc' := 473) rfl (hb hby at_469) (by decide) (by decide) k) ?_
                    show OwnEnds p.tables e below _ (T62.setTop (mkF m 473 #[.val (.int p0), .val (.int p1), .val (.int p2), .val (.int p3), .val (.int p4), .val (.long q5), .second, .val (.int x0), .val (.int nr), .val (.int y2), .val (.int z2), .val (.int km), .val (.int a3), .val (.int b3), .val (.int c2), sl169_l15, .val (.ref b8), .val (.int (2 : Int32)), .val (.ref b48), .val (.ref b51), .val (.ref bm), .val (.int b3), .val (.int (1 : Int32)), .val (.int jj)] [(.int (1 : Int32))]))
                    refine own_via (fun t k => XS.istore X62.here hx rfl (hb hby at_473) rfl (l' := #[.val (.int p0), .val (.int p1), .val (.int p2), .val (.int p3), .val (.int p4), .val (.long q5), .second, .val (.int x0), .val (.int nr), .val (.int y2), .val (.int z2), .val (.int km), .val (.int a3), .val (.int b3), .val (.int c2), sl169_l15, .val (.ref b8), .val (.int (2 : Int32)), .val (.ref b48), .val (.ref b51), .val (.ref bm), .val (.int b3), .val (.int (1 : Int32)), .val (.int jj)]) rfl k) ?_
                    show OwnEnds p.tables e below _ (T62.setTop (mkF m 475 #[.val (.int p0), .val (.int p1), .val (.int p2), .val (.int p3), .val (.int p4), .val (.long q5), .second, .val (.int x0), .val (.int nr), .val (.int y2), .val (.int z2), .val (.int km), .val (.int a3), .val (.int b3), .val (.int c2), sl169_l15, .val (.ref b8), .val (.int (2 : Int32)), .val (.ref b48), .val (.ref b51), .val (.ref bm), .val (.int b3), .val (.int (1 : Int32)), .val (.int jj)] []))
                    refine own_via (fun t k => XS.iload X62.here hx rfl (hb hby at_475) rfl k) ?_
                    show OwnEnds p.tables e below _ (T62.setTop (mkF m 477 #[.val (.int p0), .val (.int p1), .val (.int p2), .val (.int p3), .val (.int p4), .val (.long q5), .second, .val (.int x0), .val (.int nr), .val (.int y2), .val (.int z2), .val (.int km), .val (.int a3), .val (.int b3), .val (.int c2), sl169_l15, .val (.ref b8), .val (.int (2 : Int32)), .val (.ref b48), .val (.ref b51), .val (.ref bm), .val (.int b3), .val (.int (1 : Int32)), .val (.int jj)] [(.int (1 : Int32))]))
                    refine own_retN (t := .boolean) X62 hx Bd.returns (by simp) hlk (hb hby at_477) ?_ (by decide) (by decide)
                    rw [e62]
                    exact ⟨rfl, N62⟩
                  · skip
                    refine own_via (fun t k => XS.icmpNo X44.here hx rfl (hb hby at_207) rfl (feq hc207_45).1 k) ?_
                    show OwnEnds p.tables e below _ (T44.setTop (mkF m 210 #[.val (.int p0), .val (.int p1), .val (.int p2), .val (.int p3), .val (.int p4), .val (.long q5), .second, .val (.int x0), .val (.int nr), .val (.int y2), .val (.int z2), .val (.int km), .val (.int a3), .val (.int b3), .val (.int c2), sl169_l15, .val (.ref b8), .val (.int (2 : Int32)), .unset, .unset, .unset, .unset, .unset, .unset] []))
                    refine own_via (fun t k => XS.aload X44.here hx rfl (hb hby at_210) rfl rfl k) ?_
                    show OwnEnds p.tables e below _ (T44.setTop (mkF m 212 #[.val (.int p0), .val (.int p1), .val (.int p2), .val (.int p3), .val (.int p4), .val (.long q5), .second, .val (.int x0), .val (.int nr), .val (.int y2), .val (.int z2), .val (.int km), .val (.int a3), .val (.int b3), .val (.int c2), sl169_l15, .val (.ref b8), .val (.int (2 : Int32)), .unset, .unset, .unset, .unset, .unset, .unset] [(.ref b8)]))
                    refine own_via (fun t k => XS.iload X44.here hx rfl (hb hby at_212) rfl k) ?_
                    show OwnEnds p.tables e below _ (T44.setTop (mkF m 214 #[.val (.int p0), .val (.int p1), .val (.int p2), .val (.int p3), .val (.int p4), .val (.long q5), .second, .val (.int x0), .val (.int nr), .val (.int y2), .val (.int z2), .val (.int km), .val (.int a3), .val (.int b3), .val (.int c2), sl169_l15, .val (.ref b8), .val (.int (2 : Int32)), .unset, .unset, .unset, .unset, .unset, .unset] [(.int (2 : Int32)), (.ref b8)]))
                    refine own_via (fun t k => XS.iload X44.here hx rfl (hb hby at_214) rfl k) ?_
                    show OwnEnds p.tables e below _ (T44.setTop (mkF m 216 #[.val (.int p0), .val (.int p1), .val (.int p2), .val (.int p3), .val (.int p4), .val (.long q5), .second, .val (.int x0), .val (.int nr), .val (.int y2), .val (.int z2), .val (.int km), .val (.int a3), .val (.int b3), .val (.int c2), sl169_l15, .val (.ref b8), .val (.int (2 : Int32)), .unset, .unset, .unset, .unset, .unset, .unset] [(.int c2), (.int (2 : Int32)), (.ref b8)]))
                    obtain ⟨T64, h64, X64, e64, W64, AA64, st64⟩ := own_stI X44 hx hZ e44 A_b8 2 rfl (Nat.le_of_ble_eq_true rfl) (g := (mkF m 216 #[.val (.int p0), .val (.int p1), .val (.int p2), .val (.int p3), .val (.int p4), .val (.long q5), .second, .val (.int x0), .val (.int nr), .val (.int y2), .val (.int z2), .val (.int km), .val (.int a3), .val (.int b3), .val (.int c2), sl169_l15, .val (.ref b8), .val (.int (2 : Int32)), .unset, .unset, .unset, .unset, .unset, .unset] [(.int c2), (.int (2 : Int32)), (.ref b8)])) rfl rfl (hb hby at_216)
                    have Zs_W64 : n0 ≤ _ := Nat.le_trans Zs_W44 (Keep.of_wr W64).1
                    replace A_b8 : AL Z h64 b8 .int [(.int a3), (.int b3), (.int c2)] := AA64
                    have N64 := Fr.snoc X64 N44 g_b8
                    refine own_via st64 ?_
                    show OwnEnds p.tables e below _ (T64.setTop (mkF m 217 #[.val (.int p0), .val (.int p1), .val (.int p2), .val (.int p3), .val (.int p4), .val (.long q5), .second, .val (.int x0), .val (.int nr), .val (.int y2), .val (.int z2), .val (.int km), .val (.int a3), .val (.int b3), .val (.int c2), sl169_l15, .val (.ref b8), .val (.int (2 : Int32)), .unset, .unset, .unset, .unset, .unset, .unset] []))
                    refine own_via (fun t k => XS.iload X64.here hx rfl (hb hby at_217) rfl k) ?_
                    show OwnEnds p.tables e below _ (T64.setTop (mkF m 219 #[.val (.int p0), .val (.int p1), .val (.int p2), .val (.int p3), .val (.int p4), .val (.long q5), .second, .val (.int x0), .val (.int nr), .val (.int y2), .val (.int z2), .val (.int km), .val (.int a3), .val (.int b3), .val (.int c2), sl169_l15, .val (.ref b8), .val (.int (2 : Int32)), .unset, .unset, .unset, .unset, .unset, .unset] [(.int (2 : Int32))]))
                    refine own_via (fun t k => XS.iconst X64.here hx rfl (hb hby at_219) k) ?_
                    show OwnEnds p.tables e below _ (T64.setTop (mkF m 220 #[.val (.int p0), .val (.int p1), .val (.int p2), .val (.int p3), .val (.int p4), .val (.long q5), .second, .val (.int x0), .val (.int nr), .val (.int y2), .val (.int z2), .val (.int km), .val (.int a3), .val (.int b3), .val (.int c2), sl169_l15, .val (.ref b8), .val (.int (2 : Int32)), .unset, .unset, .unset, .unset, .unset, .unset] [(.int (1 : Int32)), (.int (2 : Int32))]))
                    refine own_via (fun t k => XS.iadd X64.here hx rfl (hb hby at_220) rfl k) ?_
                    show OwnEnds p.tables e below _ (T64.setTop (mkF m 221 #[.val (.int p0), .val (.int p1), .val (.int p2), .val (.int p3), .val (.int p4), .val (.long q5), .second, .val (.int x0), .val (.int nr), .val (.int y2), .val (.int z2), .val (.int km), .val (.int a3), .val (.int b3), .val (.int c2), sl169_l15, .val (.ref b8), .val (.int (2 : Int32)), .unset, .unset, .unset, .unset, .unset, .unset] [(.int (3 : Int32))]))
                    refine own_via (fun t k => XS.istore X64.here hx rfl (hb hby at_221) rfl (l' := #[.val (.int p0), .val (.int p1), .val (.int p2), .val (.int p3), .val (.int p4), .val (.long q5), .second, .val (.int x0), .val (.int nr), .val (.int y2), .val (.int z2), .val (.int km), .val (.int a3), .val (.int b3), .val (.int c2), sl169_l15, .val (.ref b8), .val (.int (3 : Int32)), .unset, .unset, .unset, .unset, .unset, .unset]) rfl k) ?_
                    show OwnEnds p.tables e below _ (T64.setTop (mkF m 223 #[.val (.int p0), .val (.int p1), .val (.int p2), .val (.int p3), .val (.int p4), .val (.long q5), .second, .val (.int x0), .val (.int nr), .val (.int y2), .val (.int z2), .val (.int km), .val (.int a3), .val (.int b3), .val (.int c2), sl169_l15, .val (.ref b8), .val (.int (3 : Int32)), .unset, .unset, .unset, .unset, .unset, .unset] []))
                    refine own_via (fun t k => XS.iload X64.here hx rfl (hb hby at_223) rfl k) ?_
                    show OwnEnds p.tables e below _ (T64.setTop (mkF m 225 #[.val (.int p0), .val (.int p1), .val (.int p2), .val (.int p3), .val (.int p4), .val (.long q5), .second, .val (.int x0), .val (.int nr), .val (.int y2), .val (.int z2), .val (.int km), .val (.int a3), .val (.int b3), .val (.int c2), sl169_l15, .val (.ref b8), .val (.int (3 : Int32)), .unset, .unset, .unset, .unset, .unset, .unset] [(.int (3 : Int32))]))
                    refine own_via (fun t k => XS.iconst X64.here hx rfl (hb hby at_225) k) ?_
                    show OwnEnds p.tables e below _ (T64.setTop (mkF m 226 #[.val (.int p0), .val (.int p1), .val (.int p2), .val (.int p3), .val (.int p4), .val (.long q5), .second, .val (.int x0), .val (.int nr), .val (.int y2), .val (.int z2), .val (.int km), .val (.int a3), .val (.int b3), .val (.int c2), sl169_l15, .val (.ref b8), .val (.int (3 : Int32)), .unset, .unset, .unset, .unset, .unset, .unset] [(.int (1 : Int32)), (.int (3 : Int32))]))
                    have hc226_65 : ¬ ((3 : Int32) = (1 : Int32)) := by decide
                    refine own_via (fun t k => XS.icmpYes X64.here hx rfl (pc0 := 226) (pc' := 244) rfl (hb hby at_226) rfl (feq hc226_65).2 (by decide) (by decide) k) ?_
                    show OwnEnds p.tables e below _ (T64.setTop (mkF m 244 #[.val (.int p0), .val (.int p1), .val (.int p2), .val (.int p3), .val (.int p4), .val (.long q5), .second, .val (.int x0), .val (.int nr), .val (.int y2), .val (.int z2), .val (.int km), .val (.int a3), .val (.int b3), .val (.int c2), sl169_l15, .val (.ref b8), .val (.int (3 : Int32)), .unset, .unset, .unset, .unset, .unset, .unset] []))
                    refine own_via (fun t k => XS.iload X64.here hx rfl (hb hby at_244) rfl k) ?_
                    show OwnEnds p.tables e below _ (T64.setTop (mkF m 246 #[.val (.int p0), .val (.int p1), .val (.int p2), .val (.int p3), .val (.int p4), .val (.long q5), .second, .val (.int x0), .val (.int nr), .val (.int y2), .val (.int z2), .val (.int km), .val (.int a3), .val (.int b3), .val (.int c2), sl169_l15, .val (.ref b8), .val (.int (3 : Int32)), .unset, .unset, .unset, .unset, .unset, .unset] [(.int (3 : Int32))]))
                    refine own_via (fun t k => XS.iconst X64.here hx rfl (hb hby at_246) k) ?_
                    show OwnEnds p.tables e below _ (T64.setTop (mkF m 247 #[.val (.int p0), .val (.int p1), .val (.int p2), .val (.int p3), .val (.int p4), .val (.long q5), .second, .val (.int x0), .val (.int nr), .val (.int y2), .val (.int z2), .val (.int km), .val (.int a3), .val (.int b3), .val (.int c2), sl169_l15, .val (.ref b8), .val (.int (3 : Int32)), .unset, .unset, .unset, .unset, .unset, .unset] [(.int (2 : Int32)), (.int (3 : Int32))]))
                    have hc247_66 : ¬ ((3 : Int32) = (2 : Int32)) := by decide
                    refine own_via (fun t k => XS.icmpYes X64.here hx rfl (pc0 := 247) (pc' := 272) rfl (hb hby at_247) rfl (feq hc247_66).2 (by decide) (by decide) k) ?_
                    show OwnEnds p.tables e below _ (T64.setTop (mkF m 272 #[.val (.int p0), .val (.int p1), .val (.int p2), .val (.int p3), .val (.int p4), .val (.long q5), .second, .val (.int x0), .val (.int nr), .val (.int y2), .val (.int z2), .val (.int km), .val (.int a3), .val (.int b3), .val (.int c2), sl169_l15, .val (.ref b8), .val (.int (3 : Int32)), .unset, .unset, .unset, .unset, .unset, .unset] []))
                    refine own_via (fun t k => XS.iconst X64.here hx rfl (hb hby at_272) k) ?_
                    show OwnEnds p.tables e below _ (T64.setTop (mkF m 273 #[.val (.int p0), .val (.int p1), .val (.int p2), .val (.int p3), .val (.int p4), .val (.long q5), .second, .val (.int x0), .val (.int nr), .val (.int y2), .val (.int z2), .val (.int km), .val (.int a3), .val (.int b3), .val (.int c2), sl169_l15, .val (.ref b8), .val (.int (3 : Int32)), .unset, .unset, .unset, .unset, .unset, .unset] [(.int (3 : Int32))]))
                    obtain ⟨T67, h67, k67, X67, e67, E67, A67, st67⟩ := newP X64 hx hZ (hw _ (List.mem_of_getElem? (i := 1) rfl)) e64 (g := (mkF m 273 #[.val (.int p0), .val (.int p1), .val (.int p2), .val (.int p3), .val (.int p4), .val (.long q5), .second, .val (.int x0), .val (.int nr), .val (.int y2), .val (.int z2), .val (.int km), .val (.int a3), .val (.int b3), .val (.int c2), sl169_l15, .val (.ref b8), .val (.int (3 : Int32)), .unset, .unset, .unset, .unset, .unset, .unset] [(.int (3 : Int32))])) rfl (hb hby at_273) rfl (by decide) (cap := 3) (by decide) (by decide) (by decide) (by decide)
                    obtain ⟨b67, g67⟩ : ∃ z, z = h64.size := ⟨_, rfl⟩
                    rw [← g67] at A67 st67
                    have ne_b8_b67 : b8 ≠ b67 := Nat.ne_of_lt (Nat.lt_of_lt_of_le A_b8.lt (Nat.le_of_eq g67.symm))
                    have g_b67 : n0 ≤ b67 := Nat.le_trans Zs_W64 (Nat.le_of_eq g67.symm)
                    have Zs_67 : n0 ≤ _ := Nat.le_trans Zs_W64 E67.1
                    replace A_b8 := A_b8.ext E67
                    have A_b67 : AL Z h67 b67 .int [(.int (0 : Int32)), (.int (0 : Int32)), (.int (0 : Int32))] := AL.new A67 (by decide) (i := 3) rfl
                    refine own_via st67 ?_
                    show OwnEnds p.tables e below _ (T67.setTop (mkF m 275 #[.val (.int p0), .val (.int p1), .val (.int p2), .val (.int p3), .val (.int p4), .val (.long q5), .second, .val (.int x0), .val (.int nr), .val (.int y2), .val (.int z2), .val (.int km), .val (.int a3), .val (.int b3), .val (.int c2), sl169_l15, .val (.ref b8), .val (.int (3 : Int32)), .unset, .unset, .unset, .unset, .unset, .unset] [(.ref b67)]))
                    refine own_via (fun t k => XS.dup X67.here hx rfl (hb hby at_275) rfl rfl k) ?_
                    show OwnEnds p.tables e below _ (T67.setTop (mkF m 276 #[.val (.int p0), .val (.int p1), .val (.int p2), .val (.int p3), .val (.int p4), .val (.long q5), .second, .val (.int x0), .val (.int nr), .val (.int y2), .val (.int z2), .val (.int km), .val (.int a3), .val (.int b3), .val (.int c2), sl169_l15, .val (.ref b8), .val (.int (3 : Int32)), .unset, .unset, .unset, .unset, .unset, .unset] [(.ref b67), (.ref b67)]))
                    refine own_via (fun t k => XS.iconst X67.here hx rfl (hb hby at_276) k) ?_
                    show OwnEnds p.tables e below _ (T67.setTop (mkF m 277 #[.val (.int p0), .val (.int p1), .val (.int p2), .val (.int p3), .val (.int p4), .val (.long q5), .second, .val (.int x0), .val (.int nr), .val (.int y2), .val (.int z2), .val (.int km), .val (.int a3), .val (.int b3), .val (.int c2), sl169_l15, .val (.ref b8), .val (.int (3 : Int32)), .unset, .unset, .unset, .unset, .unset, .unset] [(.int (0 : Int32)), (.ref b67), (.ref b67)]))
                    refine own_via (fun t k => XS.aload X67.here hx rfl (hb hby at_277) rfl rfl k) ?_
                    show OwnEnds p.tables e below _ (T67.setTop (mkF m 279 #[.val (.int p0), .val (.int p1), .val (.int p2), .val (.int p3), .val (.int p4), .val (.long q5), .second, .val (.int x0), .val (.int nr), .val (.int y2), .val (.int z2), .val (.int km), .val (.int a3), .val (.int b3), .val (.int c2), sl169_l15, .val (.ref b8), .val (.int (3 : Int32)), .unset, .unset, .unset, .unset, .unset, .unset] [(.ref b8), (.int (0 : Int32)), (.ref b67), (.ref b67)]))
                    refine own_via (fun t k => XS.iconst X67.here hx rfl (hb hby at_279) k) ?_
                    show OwnEnds p.tables e below _ (T67.setTop (mkF m 280 #[.val (.int p0), .val (.int p1), .val (.int p2), .val (.int p3), .val (.int p4), .val (.long q5), .second, .val (.int x0), .val (.int nr), .val (.int y2), .val (.int z2), .val (.int km), .val (.int a3), .val (.int b3), .val (.int c2), sl169_l15, .val (.ref b8), .val (.int (3 : Int32)), .unset, .unset, .unset, .unset, .unset, .unset] [(.int (0 : Int32)), (.ref b8), (.int (0 : Int32)), (.ref b67), (.ref b67)]))
                    refine own_via (own_ldI X67 hx hZ e67 A_b8 (v := (.int a3)) 0 rfl rfl (g := (mkF m 280 #[.val (.int p0), .val (.int p1), .val (.int p2), .val (.int p3), .val (.int p4), .val (.long q5), .second, .val (.int x0), .val (.int nr), .val (.int y2), .val (.int z2), .val (.int km), .val (.int a3), .val (.int b3), .val (.int c2), sl169_l15, .val (.ref b8), .val (.int (3 : Int32)), .unset, .unset, .unset, .unset, .unset, .unset] [(.int (0 : Int32)), (.ref b8), (.int (0 : Int32)), (.ref b67), (.ref b67)])) rfl rfl (hb hby at_280)) ?_
                    show OwnEnds p.tables e below _ (T67.setTop (mkF m 281 #[.val (.int p0), .val (.int p1), .val (.int p2), .val (.int p3), .val (.int p4), .val (.long q5), .second, .val (.int x0), .val (.int nr), .val (.int y2), .val (.int z2), .val (.int km), .val (.int a3), .val (.int b3), .val (.int c2), sl169_l15, .val (.ref b8), .val (.int (3 : Int32)), .unset, .unset, .unset, .unset, .unset, .unset] [(.int a3), (.int (0 : Int32)), (.ref b67), (.ref b67)]))
                    obtain ⟨T68, h68, X68, e68, W68, AA68, st68⟩ := own_stI X67 hx hZ e67 A_b67 0 rfl (Nat.le_of_ble_eq_true rfl) (g := (mkF m 281 #[.val (.int p0), .val (.int p1), .val (.int p2), .val (.int p3), .val (.int p4), .val (.long q5), .second, .val (.int x0), .val (.int nr), .val (.int y2), .val (.int z2), .val (.int km), .val (.int a3), .val (.int b3), .val (.int c2), sl169_l15, .val (.ref b8), .val (.int (3 : Int32)), .unset, .unset, .unset, .unset, .unset, .unset] [(.int a3), (.int (0 : Int32)), (.ref b67), (.ref b67)])) rfl rfl (hb hby at_281)
                    replace A_b8 := A_b8.other W68 ne_b8_b67
                    have Zs_W68 : n0 ≤ _ := Nat.le_trans Zs_67 (Keep.of_wr W68).1
                    replace A_b67 : AL Z h68 b67 .int [(.int a3), (.int (0 : Int32)), (.int (0 : Int32))] := AA68
                    have N68 := Fr.snoc X68 N64 g_b67
                    refine own_via st68 ?_
                    show OwnEnds p.tables e below _ (T68.setTop (mkF m 282 #[.val (.int p0), .val (.int p1), .val (.int p2), .val (.int p3), .val (.int p4), .val (.long q5), .second, .val (.int x0), .val (.int nr), .val (.int y2), .val (.int z2), .val (.int km), .val (.int a3), .val (.int b3), .val (.int c2), sl169_l15, .val (.ref b8), .val (.int (3 : Int32)), .unset, .unset, .unset, .unset, .unset, .unset] [(.ref b67)]))
                    refine own_via (fun t k => XS.dup X68.here hx rfl (hb hby at_282) rfl rfl k) ?_
                    show OwnEnds p.tables e below _ (T68.setTop (mkF m 283 #[.val (.int p0), .val (.int p1), .val (.int p2), .val (.int p3), .val (.int p4), .val (.long q5), .second, .val (.int x0), .val (.int nr), .val (.int y2), .val (.int z2), .val (.int km), .val (.int a3), .val (.int b3), .val (.int c2), sl169_l15, .val (.ref b8), .val (.int (3 : Int32)), .unset, .unset, .unset, .unset, .unset, .unset] [(.ref b67), (.ref b67)]))
                    refine own_via (fun t k => XS.iconst X68.here hx rfl (hb hby at_283) k) ?_
                    show OwnEnds p.tables e below _ (T68.setTop (mkF m 284 #[.val (.int p0), .val (.int p1), .val (.int p2), .val (.int p3), .val (.int p4), .val (.long q5), .second, .val (.int x0), .val (.int nr), .val (.int y2), .val (.int z2), .val (.int km), .val (.int a3), .val (.int b3), .val (.int c2), sl169_l15, .val (.ref b8), .val (.int (3 : Int32)), .unset, .unset, .unset, .unset, .unset, .unset] [(.int (1 : Int32)), (.ref b67), (.ref b67)]))
                    refine own_via (fun t k => XS.aload X68.here hx rfl (hb hby at_284) rfl rfl k) ?_
                    show OwnEnds p.tables e below _ (T68.setTop (mkF m 286 #[.val (.int p0), .val (.int p1), .val (.int p2), .val (.int p3), .val (.int p4), .val (.long q5), .second, .val (.int x0), .val (.int nr), .val (.int y2), .val (.int z2), .val (.int km), .val (.int a3), .val (.int b3), .val (.int c2), sl169_l15, .val (.ref b8), .val (.int (3 : Int32)), .unset, .unset, .unset, .unset, .unset, .unset] [(.ref b8), (.int (1 : Int32)), (.ref b67), (.ref b67)]))
                    refine own_via (fun t k => XS.iconst X68.here hx rfl (hb hby at_286) k) ?_
                    show OwnEnds p.tables e below _ (T68.setTop (mkF m 287 #[.val (.int p0), .val (.int p1), .val (.int p2), .val (.int p3), .val (.int p4), .val (.long q5), .second, .val (.int x0), .val (.int nr), .val (.int y2), .val (.int z2), .val (.int km), .val (.int a3), .val (.int b3), .val (.int c2), sl169_l15, .val (.ref b8), .val (.int (3 : Int32)), .unset, .unset, .unset, .unset, .unset, .unset] [(.int (1 : Int32)), (.ref b8), (.int (1 : Int32)), (.ref b67), (.ref b67)]))
                    refine own_via (own_ldI X68 hx hZ e68 A_b8 (v := (.int b3)) 1 rfl rfl (g := (mkF m 287 #[.val (.int p0), .val (.int p1), .val (.int p2), .val (.int p3), .val (.int p4), .val (.long q5), .second, .val (.int x0), .val (.int nr), .val (.int y2), .val (.int z2), .val (.int km), .val (.int a3), .val (.int b3), .val (.int c2), sl169_l15, .val (.ref b8), .val (.int (3 : Int32)), .unset, .unset, .unset, .unset, .unset, .unset] [(.int (1 : Int32)), (.ref b8), (.int (1 : Int32)), (.ref b67), (.ref b67)])) rfl rfl (hb hby at_287)) ?_
                    show OwnEnds p.tables e below _ (T68.setTop (mkF m 288 #[.val (.int p0), .val (.int p1), .val (.int p2), .val (.int p3), .val (.int p4), .val (.long q5), .second, .val (.int x0), .val (.int nr), .val (.int y2), .val (.int z2), .val (.int km), .val (.int a3), .val (.int b3), .val (.int c2), sl169_l15, .val (.ref b8), .val (.int (3 : Int32)), .unset, .unset, .unset, .unset, .unset, .unset] [(.int b3), (.int (1 : Int32)), (.ref b67), (.ref b67)]))
                    obtain ⟨T69, h69, X69, e69, W69, AA69, st69⟩ := own_stI X68 hx hZ e68 A_b67 1 rfl (Nat.le_of_ble_eq_true rfl) (g := (mkF m 288 #[.val (.int p0), .val (.int p1), .val (.int p2), .val (.int p3), .val (.int p4), .val (.long q5), .second, .val (.int x0), .val (.int nr), .val (.int y2), .val (.int z2), .val (.int km), .val (.int a3), .val (.int b3), .val (.int c2), sl169_l15, .val (.ref b8), .val (.int (3 : Int32)), .unset, .unset, .unset, .unset, .unset, .unset] [(.int b3), (.int (1 : Int32)), (.ref b67), (.ref b67)])) rfl rfl (hb hby at_288)
                    replace A_b8 := A_b8.other W69 ne_b8_b67
                    have Zs_W69 : n0 ≤ _ := Nat.le_trans Zs_W68 (Keep.of_wr W69).1
                    replace A_b67 : AL Z h69 b67 .int [(.int a3), (.int b3), (.int (0 : Int32))] := AA69
                    have N69 := Fr.snoc X69 N68 g_b67
                    refine own_via st69 ?_
                    show OwnEnds p.tables e below _ (T69.setTop (mkF m 289 #[.val (.int p0), .val (.int p1), .val (.int p2), .val (.int p3), .val (.int p4), .val (.long q5), .second, .val (.int x0), .val (.int nr), .val (.int y2), .val (.int z2), .val (.int km), .val (.int a3), .val (.int b3), .val (.int c2), sl169_l15, .val (.ref b8), .val (.int (3 : Int32)), .unset, .unset, .unset, .unset, .unset, .unset] [(.ref b67)]))
                    refine own_via (fun t k => XS.dup X69.here hx rfl (hb hby at_289) rfl rfl k) ?_
                    show OwnEnds p.tables e below _ (T69.setTop (mkF m 290 #[.val (.int p0), .val (.int p1), .val (.int p2), .val (.int p3), .val (.int p4), .val (.long q5), .second, .val (.int x0), .val (.int nr), .val (.int y2), .val (.int z2), .val (.int km), .val (.int a3), .val (.int b3), .val (.int c2), sl169_l15, .val (.ref b8), .val (.int (3 : Int32)), .unset, .unset, .unset, .unset, .unset, .unset] [(.ref b67), (.ref b67)]))
                    refine own_via (fun t k => XS.iconst X69.here hx rfl (hb hby at_290) k) ?_
                    show OwnEnds p.tables e below _ (T69.setTop (mkF m 291 #[.val (.int p0), .val (.int p1), .val (.int p2), .val (.int p3), .val (.int p4), .val (.long q5), .second, .val (.int x0), .val (.int nr), .val (.int y2), .val (.int z2), .val (.int km), .val (.int a3), .val (.int b3), .val (.int c2), sl169_l15, .val (.ref b8), .val (.int (3 : Int32)), .unset, .unset, .unset, .unset, .unset, .unset] [(.int (2 : Int32)), (.ref b67), (.ref b67)]))
                    refine own_via (fun t k => XS.aload X69.here hx rfl (hb hby at_291) rfl rfl k) ?_
                    show OwnEnds p.tables e below _ (T69.setTop (mkF m 293 #[.val (.int p0), .val (.int p1), .val (.int p2), .val (.int p3), .val (.int p4), .val (.long q5), .second, .val (.int x0), .val (.int nr), .val (.int y2), .val (.int z2), .val (.int km), .val (.int a3), .val (.int b3), .val (.int c2), sl169_l15, .val (.ref b8), .val (.int (3 : Int32)), .unset, .unset, .unset, .unset, .unset, .unset] [(.ref b8), (.int (2 : Int32)), (.ref b67), (.ref b67)]))
                    refine own_via (fun t k => XS.iconst X69.here hx rfl (hb hby at_293) k) ?_
                    show OwnEnds p.tables e below _ (T69.setTop (mkF m 294 #[.val (.int p0), .val (.int p1), .val (.int p2), .val (.int p3), .val (.int p4), .val (.long q5), .second, .val (.int x0), .val (.int nr), .val (.int y2), .val (.int z2), .val (.int km), .val (.int a3), .val (.int b3), .val (.int c2), sl169_l15, .val (.ref b8), .val (.int (3 : Int32)), .unset, .unset, .unset, .unset, .unset, .unset] [(.int (2 : Int32)), (.ref b8), (.int (2 : Int32)), (.ref b67), (.ref b67)]))
                    refine own_via (own_ldI X69 hx hZ e69 A_b8 (v := (.int c2)) 2 rfl rfl (g := (mkF m 294 #[.val (.int p0), .val (.int p1), .val (.int p2), .val (.int p3), .val (.int p4), .val (.long q5), .second, .val (.int x0), .val (.int nr), .val (.int y2), .val (.int z2), .val (.int km), .val (.int a3), .val (.int b3), .val (.int c2), sl169_l15, .val (.ref b8), .val (.int (3 : Int32)), .unset, .unset, .unset, .unset, .unset, .unset] [(.int (2 : Int32)), (.ref b8), (.int (2 : Int32)), (.ref b67), (.ref b67)])) rfl rfl (hb hby at_294)) ?_
                    show OwnEnds p.tables e below _ (T69.setTop (mkF m 295 #[.val (.int p0), .val (.int p1), .val (.int p2), .val (.int p3), .val (.int p4), .val (.long q5), .second, .val (.int x0), .val (.int nr), .val (.int y2), .val (.int z2), .val (.int km), .val (.int a3), .val (.int b3), .val (.int c2), sl169_l15, .val (.ref b8), .val (.int (3 : Int32)), .unset, .unset, .unset, .unset, .unset, .unset] [(.int c2), (.int (2 : Int32)), (.ref b67), (.ref b67)]))
                    obtain ⟨T70, h70, X70, e70, W70, AA70, st70⟩ := own_stI X69 hx hZ e69 A_b67 2 rfl (Nat.le_of_ble_eq_true rfl) (g := (mkF m 295 #[.val (.int p0), .val (.int p1), .val (.int p2), .val (.int p3), .val (.int p4), .val (.long q5), .second, .val (.int x0), .val (.int nr), .val (.int y2), .val (.int z2), .val (.int km), .val (.int a3), .val (.int b3), .val (.int c2), sl169_l15, .val (.ref b8), .val (.int (3 : Int32)), .unset, .unset, .unset, .unset, .unset, .unset] [(.int c2), (.int (2 : Int32)), (.ref b67), (.ref b67)])) rfl rfl (hb hby at_295)
                    replace A_b8 := A_b8.other W70 ne_b8_b67
                    have Zs_W70 : n0 ≤ _ := Nat.le_trans Zs_W69 (Keep.of_wr W70).1
                    replace A_b67 : AL Z h70 b67 .int [(.int a3), (.int b3), (.int c2)] := AA70
                    have N70 := Fr.snoc X70 N69 g_b67
                    refine own_via st70 ?_
                    show OwnEnds p.tables e below _ (T70.setTop (mkF m 296 #[.val (.int p0), .val (.int p1), .val (.int p2), .val (.int p3), .val (.int p4), .val (.long q5), .second, .val (.int x0), .val (.int nr), .val (.int y2), .val (.int z2), .val (.int km), .val (.int a3), .val (.int b3), .val (.int c2), sl169_l15, .val (.ref b8), .val (.int (3 : Int32)), .unset, .unset, .unset, .unset, .unset, .unset] [(.ref b67)]))
                    refine own_via (fun t k => XS.astore X70.here hx rfl (hb hby at_296) rfl rfl (l' := #[.val (.int p0), .val (.int p1), .val (.int p2), .val (.int p3), .val (.int p4), .val (.long q5), .second, .val (.int x0), .val (.int nr), .val (.int y2), .val (.int z2), .val (.int km), .val (.int a3), .val (.int b3), .val (.int c2), sl169_l15, .val (.ref b8), .val (.int (3 : Int32)), .val (.ref b67), .unset, .unset, .unset, .unset, .unset]) rfl k) ?_
                    show OwnEnds p.tables e below _ (T70.setTop (mkF m 298 #[.val (.int p0), .val (.int p1), .val (.int p2), .val (.int p3), .val (.int p4), .val (.long q5), .second, .val (.int x0), .val (.int nr), .val (.int y2), .val (.int z2), .val (.int km), .val (.int a3), .val (.int b3), .val (.int c2), sl169_l15, .val (.ref b8), .val (.int (3 : Int32)), .val (.ref b67), .unset, .unset, .unset, .unset, .unset] []))
                    obtain ⟨T71, h71, X71, e71, E71, A71, D71, -, st71⟩ := newO X70 hx hZ hown (hw _ (List.mem_of_getElem? (i := 2) rfl)) (hw _ (List.mem_of_getElem? (i := 3) rfl)) (hw _ (List.mem_of_getElem? (i := 4) rfl)) e70 (g := (mkF m 298 #[.val (.int p0), .val (.int p1), .val (.int p2), .val (.int p3), .val (.int p4), .val (.long q5), .second, .val (.int x0), .val (.int nr), .val (.int y2), .val (.int z2), .val (.int km), .val (.int a3), .val (.int b3), .val (.int c2), sl169_l15, .val (.ref b8), .val (.int (3 : Int32)), .val (.ref b67), .unset, .unset, .unset, .unset, .unset] [])) rfl (hb hby at_298) (by decide) (by decide)
                    obtain ⟨b71, g71⟩ : ∃ z, z = h70.size := ⟨_, rfl⟩
                    rw [← g71] at A71 D71 st71
                    have ne_b67_b71 : b67 ≠ b71 := Nat.ne_of_lt (Nat.lt_of_lt_of_le A_b67.lt (Nat.le_of_eq g71.symm))
                    have ne_b8_b71 : b8 ≠ b71 := Nat.ne_of_lt (Nat.lt_of_lt_of_le A_b8.lt (Nat.le_of_eq g71.symm))
                    have g_b71 : n0 ≤ b71 := Nat.le_trans Zs_W70 (Nat.le_of_eq g71.symm)
                    have Zs_71 : n0 ≤ _ := Nat.le_trans Zs_W70 E71.1
                    replace A_b8 := A_b8.ext E71
                    replace A_b67 := A_b67.ext E71
                    have E_b71 := A71
                    have F_index_b71 : Fld Z h71 b71 "com/example/crowd_cache/crowdcache/core/Bucket" "index" "J" (.long (0 : Int64)) := D71 (Or.inr (hw _ (List.mem_of_getElem? (i := 13) rfl))) (ty := .long) (by decide)
                    have F_positions_b71 : Fld Z h71 b71 "com/example/crowd_cache/crowdcache/core/Bucket" "positions" "[I" .null := D71 (Or.inr (hw _ (List.mem_of_getElem? (i := 15) rfl))) (ty := (.array .int)) (by decide)
                    refine own_via st71 ?_
                    show OwnEnds p.tables e below _ (T71.setTop (mkF m 301 #[.val (.int p0), .val (.int p1), .val (.int p2), .val (.int p3), .val (.int p4), .val (.long q5), .second, .val (.int x0), .val (.int nr), .val (.int y2), .val (.int z2), .val (.int km), .val (.int a3), .val (.int b3), .val (.int c2), sl169_l15, .val (.ref b8), .val (.int (3 : Int32)), .val (.ref b67), .unset, .unset, .unset, .unset, .unset] [(.ref b71)]))
                    refine own_via (fun t k => XS.dup X71.here hx rfl (hb hby at_301) rfl rfl k) ?_
                    show OwnEnds p.tables e below _ (T71.setTop (mkF m 302 #[.val (.int p0), .val (.int p1), .val (.int p2), .val (.int p3), .val (.int p4), .val (.long q5), .second, .val (.int x0), .val (.int nr), .val (.int y2), .val (.int z2), .val (.int km), .val (.int a3), .val (.int b3), .val (.int c2), sl169_l15, .val (.ref b8), .val (.int (3 : Int32)), .val (.ref b67), .unset, .unset, .unset, .unset, .unset] [(.ref b71), (.ref b71)]))
                    refine own_via (fun t k => XS.lload X71.here hx rfl (hb hby at_302) rfl k) ?_
                    show OwnEnds p.tables e below _ (T71.setTop (mkF m 304 #[.val (.int p0), .val (.int p1), .val (.int p2), .val (.int p3), .val (.int p4), .val (.long q5), .second, .val (.int x0), .val (.int nr), .val (.int y2), .val (.int z2), .val (.int km), .val (.int a3), .val (.int b3), .val (.int c2), sl169_l15, .val (.ref b8), .val (.int (3 : Int32)), .val (.ref b67), .unset, .unset, .unset, .unset, .unset] [(.long q5), (.ref b71), (.ref b71)]))
                    refine own_via (X71.ldc2Long hx hown (mvT hZ (hw _ (List.mem_of_getElem? (i := 5) rfl))) (g := (mkF m 304 #[.val (.int p0), .val (.int p1), .val (.int p2), .val (.int p3), .val (.int p4), .val (.long q5), .second, .val (.int x0), .val (.int nr), .val (.int y2), .val (.int z2), .val (.int km), .val (.int a3), .val (.int b3), .val (.int c2), sl169_l15, .val (.ref b8), .val (.int (3 : Int32)), .val (.ref b67), .unset, .unset, .unset, .unset, .unset] [(.long q5), (.ref b71), (.ref b71)])) rfl (hb hby at_304)) ?_
                    show OwnEnds p.tables e below _ (T71.setTop (mkF m 307 #[.val (.int p0), .val (.int p1), .val (.int p2), .val (.int p3), .val (.int p4), .val (.long q5), .second, .val (.int x0), .val (.int nr), .val (.int y2), .val (.int z2), .val (.int km), .val (.int a3), .val (.int b3), .val (.int c2), sl169_l15, .val (.ref b8), .val (.int (3 : Int32)), .val (.ref b67), .unset, .unset, .unset, .unset, .unset] [(.long (140737488355327 : Int64)), (.long q5), (.ref b71), (.ref b71)]))
                    refine own_via (fun t k => XS.land X71.here hx rfl (hb hby at_307) rfl k) ?_
                    show OwnEnds p.tables e below _ (T71.setTop (mkF m 308 #[.val (.int p0), .val (.int p1), .val (.int p2), .val (.int p3), .val (.int p4), .val (.long q5), .second, .val (.int x0), .val (.int nr), .val (.int y2), .val (.int z2), .val (.int km), .val (.int a3), .val (.int b3), .val (.int c2), sl169_l15, .val (.ref b8), .val (.int (3 : Int32)), .val (.ref b67), .unset, .unset, .unset, .unset, .unset] [(.long (q5 &&& (140737488355327 : Int64))), (.ref b71), (.ref b71)]))
                    refine own_via (fun t k => XS.aload X71.here hx rfl (hb hby at_308) rfl rfl k) ?_
                    show OwnEnds p.tables e below _ (T71.setTop (mkF m 310 #[.val (.int p0), .val (.int p1), .val (.int p2), .val (.int p3), .val (.int p4), .val (.long q5), .second, .val (.int x0), .val (.int nr), .val (.int y2), .val (.int z2), .val (.int km), .val (.int a3), .val (.int b3), .val (.int c2), sl169_l15, .val (.ref b8), .val (.int (3 : Int32)), .val (.ref b67), .unset, .unset, .unset, .unset, .unset] [(.ref b67), (.long (q5 &&& (140737488355327 : Int64))), (.ref b71), (.ref b71)]))
                    obtain ⟨_, _, ⟨T72, L72, k72, n72⟩, -, X72, ⟨Lc72, hQ72, l72, y72, z72⟩, st72⟩ := X71.specialBack hx (y := (⟨"com/example/crowd_cache/crowdcache/core/Bucket", "<init>", "(J[I)V"⟩ : MethodName)) rfl hown (mvT hZ (hw _ (List.mem_of_getElem? (i := 6) rfl))) (mvT hZ (hw _ (List.mem_of_getElem? (i := 7) rfl))) (mvT hZ (hw _ (List.mem_of_getElem? (i := 8) rfl))) (by decide) (backOf (W := 1) (rm1 l Z aw hw [] b71 (q5 &&& (140737488355327 : Int64)) b67 h71 n0 Zs_71 E_b71 F_index_b71 F_positions_b71 g_b71) hZ (hw _ (List.mem_of_getElem? (i := 8) rfl)) (hw _ (List.mem_of_getElem? (i := 4) rfl)) (by decide) (by decide)) (g := (mkF m 310 #[.val (.int p0), .val (.int p1), .val (.int p2), .val (.int p3), .val (.int p4), .val (.long q5), .second, .val (.int x0), .val (.int nr), .val (.int y2), .val (.int z2), .val (.int km), .val (.int a3), .val (.int b3), .val (.int c2), sl169_l15, .val (.ref b8), .val (.int (3 : Int32)), .val (.ref b67), .unset, .unset, .unset, .unset, .unset] [(.ref b67), (.long (q5 &&& (140737488355327 : Int64))), (.ref b71), (.ref b71)])) rfl (by rw [hml]; rfl) (Steps.refl _) (a := b71) (argsL := [(.long (q5 &&& (140737488355327 : Int64))), (.ref b67)]) (rest := [(.ref b71)]) (lenOf pd_2 rfl) rfl (by show 2 * 0 + _ ≤ _; exact Nat.le_of_eq rfl) (hb hby at_310) (fun _ _ => ⟨rfl, e71, (by decide : 3 + 0 ≤ _), (by decide : 8 + 0 ≤ _)⟩)
                    dsimp only [Pt.U, Pt.locs, Pt.cells, Pt.slots] at X72 l72 y72 z72 st72 hQ72
                    subst l72 y72 z72
                    obtain ⟨h72, e72⟩ : ∃ z, T72.heap = z := ⟨_, rfl⟩
                    rw [e72] at hQ72
                    obtain ⟨rfl, Nq72, K72, Y72_0, Y72_1, Y72_2⟩ := hQ72
                    have N72 := Fr.app N70 Nq72
                    replace A_b8 := A_b8.keep K72 (ninS ne_b8_b71 nin0)
                    replace A_b67 := A_b67.keep K72 (ninS ne_b67_b71 nin0)
                    replace E_b71 := E_b71.keep K72
                    have F_index_b71 : Fld Z h72 b71 "com/example/crowd_cache/crowdcache/core/Bucket" "index" "J" (.long (q5 &&& (140737488355327 : Int64))) := Y72_1
                    have F_positions_b71 : Fld Z h72 b71 "com/example/crowd_cache/crowdcache/core/Bucket" "positions" "[I" (.ref b67) := Y72_2
                    have Zs_72 : n0 ≤ _ := Nat.le_trans Zs_71 K72.1
                    refine own_of st72 ?_
                    show OwnEnds p.tables e below _ (T72.setTop (mkF m 313 #[.val (.int p0), .val (.int p1), .val (.int p2), .val (.int p3), .val (.int p4), .val (.long q5), .second, .val (.int x0), .val (.int nr), .val (.int y2), .val (.int z2), .val (.int km), .val (.int a3), .val (.int b3), .val (.int c2), sl169_l15, .val (.ref b8), .val (.int (3 : Int32)), .val (.ref b67), .unset, .unset, .unset, .unset, .unset] [(.ref b71)]))
                    refine own_via (fun t k => XS.astore X72.here hx rfl (hb hby at_313) rfl rfl (l' := #[.val (.int p0), .val (.int p1), .val (.int p2), .val (.int p3), .val (.int p4), .val (.long q5), .second, .val (.int x0), .val (.int nr), .val (.int y2), .val (.int z2), .val (.int km), .val (.int a3), .val (.int b3), .val (.int c2), sl169_l15, .val (.ref b8), .val (.int (3 : Int32)), .val (.ref b67), .val (.ref b71), .unset, .unset, .unset, .unset]) rfl k) ?_
                    show OwnEnds p.tables e below _ (T72.setTop (mkF m 315 #[.val (.int p0), .val (.int p1), .val (.int p2), .val (.int p3), .val (.int p4), .val (.long q5), .second, .val (.int x0), .val (.int nr), .val (.int y2), .val (.int z2), .val (.int km), .val (.int a3), .val (.int b3), .val (.int c2), sl169_l15, .val (.ref b8), .val (.int (3 : Int32)), .val (.ref b67), .val (.ref b71), .unset, .unset, .unset, .unset] []))
                    refine own_via (fun t k => XS.aload X72.here hx rfl (hb hby at_315) rfl rfl k) ?_
                    show OwnEnds p.tables e below _ (T72.setTop (mkF m 317 #[.val (.int p0), .val (.int p1), .val (.int p2), .val (.int p3), .val (.int p4), .val (.long q5), .second, .val (.int x0), .val (.int nr), .val (.int y2), .val (.int z2), .val (.int km), .val (.int a3), .val (.int b3), .val (.int c2), sl169_l15, .val (.ref b8), .val (.int (3 : Int32)), .val (.ref b67), .val (.ref b71), .unset, .unset, .unset, .unset] [(.ref b71)]))
                    obtain ⟨cq73, kq73, q73a, q73b, q73c⟩ := isOf hZ e72 E_b71
                    obtain ⟨_, _, ⟨T73, L73, k73, n73⟩, -, X73, ⟨Lc73, hQ73, l73, y73, z73⟩, st73⟩ := X72.virtualBack hx (y := (⟨"com/example/crowd_cache/crowdcache/core/Bucket", "toBitmap", "()[B"⟩ : MethodName)) (z := (⟨"com/example/crowd_cache/crowdcache/core/Bucket", "toBitmap", "()[B"⟩ : MethodName)) hown (mvT hZ (hw _ (List.mem_of_getElem? (i := 16) rfl))) (mvT hZ (hw _ (List.mem_of_getElem? (i := 17) rfl))) (notFace_of_selects (args := #[]) (mvT hZ (hw _ (List.mem_of_getElem? (i := 19) rfl)))) (mvT hZ (hw _ (List.mem_of_getElem? (i := 19) rfl))) (mvT hZ (hw _ (List.mem_of_getElem? (i := 18) rfl))) (by decide) (backOf (W := 0) (rm33 l Z aw hw [] b71 b67 a3 b3 c2 h72 n0 Zs_72 E_b71 F_positions_b71 A_b67 hr_a3 hr_b3 hr_c2 (Int.le_trans hab hbc) (hbc) (Int.le_refl _)) hZ (hw _ (List.mem_of_getElem? (i := 20) rfl)) (hw _ (List.mem_of_getElem? (i := 4) rfl)) (by decide) (by decide)) q73a q73c (g := (mkF m 317 #[.val (.int p0), .val (.int p1), .val (.int p2), .val (.int p3), .val (.int p4), .val (.long q5), .second, .val (.int x0), .val (.int nr), .val (.int y2), .val (.int z2), .val (.int km), .val (.int a3), .val (.int b3), .val (.int c2), sl169_l15, .val (.ref b8), .val (.int (3 : Int32)), .val (.ref b67), .val (.ref b71), .unset, .unset, .unset, .unset] [(.ref b71)])) rfl (by rw [hml]; rfl) (Steps.refl _) (argsL := []) (rest := []) (lenOf pd_3 rfl) rfl (by show 2 * 0 + _ ≤ _; exact Nat.le_of_eq rfl) (hb hby at_317) (fun _ _ => ⟨rfl, e72, (by decide : 3 + 1 ≤ _), (by decide : 8 + 8192 ≤ _)⟩)
                    dsimp only [Pt.U, Pt.locs, Pt.cells, Pt.slots] at X73 l73 y73 z73 st73 hQ73
                    subst l73 y73 z73
                    obtain ⟨h73, e73⟩ : ∃ z, T73.heap = z := ⟨_, rfl⟩
                    rw [e73] at hQ73
                    obtain ⟨bm, rfl, Nq73, K73, sz_bm', Y73_0⟩ := hQ73
                    have N73 := Fr.app N72 Nq73
                    have ne_b67_bm : b67 ≠ bm := Nat.ne_of_lt (Nat.lt_of_lt_of_le A_b67.lt sz_bm')
                    have ne_b71_bm : b71 ≠ bm := Nat.ne_of_lt (Nat.lt_of_lt_of_le E_b71.lt sz_bm')
                    have ne_b8_bm : b8 ≠ bm := Nat.ne_of_lt (Nat.lt_of_lt_of_le A_b8.lt sz_bm')
                    have g_bm : n0 ≤ bm := Nat.le_trans Zs_72 sz_bm'
                    replace A_b8 := A_b8.keep K73 nin0
                    replace A_b67 := A_b67.keep K73 nin0
                    replace E_b71 := E_b71.keep K73
                    replace F_index_b71 := F_index_b71.keep K73 nin0
                    replace F_positions_b71 := F_positions_b71.keep K73 nin0
                    have A_bm : AL Z h73 bm .byte (own_bl ((c2 / 8).toNatClampNeg + 1) [a3, b3, c2]) := Y73_0
                    have Zs_73 : n0 ≤ _ := Nat.le_trans Zs_72 K73.1
                    refine own_of st73 ?_
                    show OwnEnds p.tables e below _ (T73.setTop (mkF m 320 #[.val (.int p0), .val (.int p1), .val (.int p2), .val (.int p3), .val (.int p4), .val (.long q5), .second, .val (.int x0), .val (.int nr), .val (.int y2), .val (.int z2), .val (.int km), .val (.int a3), .val (.int b3), .val (.int c2), sl169_l15, .val (.ref b8), .val (.int (3 : Int32)), .val (.ref b67), .val (.ref b71), .unset, .unset, .unset, .unset] [(.ref bm)]))
                    refine own_via (fun t k => XS.astore X73.here hx rfl (hb hby at_320) rfl rfl (l' := #[.val (.int p0), .val (.int p1), .val (.int p2), .val (.int p3), .val (.int p4), .val (.long q5), .second, .val (.int x0), .val (.int nr), .val (.int y2), .val (.int z2), .val (.int km), .val (.int a3), .val (.int b3), .val (.int c2), sl169_l15, .val (.ref b8), .val (.int (3 : Int32)), .val (.ref b67), .val (.ref b71), .val (.ref bm), .unset, .unset, .unset]) rfl k) ?_
                    show OwnEnds p.tables e below _ (T73.setTop (mkF m 322 #[.val (.int p0), .val (.int p1), .val (.int p2), .val (.int p3), .val (.int p4), .val (.long q5), .second, .val (.int x0), .val (.int nr), .val (.int y2), .val (.int z2), .val (.int km), .val (.int a3), .val (.int b3), .val (.int c2), sl169_l15, .val (.ref b8), .val (.int (3 : Int32)), .val (.ref b67), .val (.ref b71), .val (.ref bm), .unset, .unset, .unset] []))
                    refine own_via (fun t k => XS.aload X73.here hx rfl (hb hby at_322) rfl rfl k) ?_
                    show OwnEnds p.tables e below _ (T73.setTop (mkF m 324 #[.val (.int p0), .val (.int p1), .val (.int p2), .val (.int p3), .val (.int p4), .val (.long q5), .second, .val (.int x0), .val (.int nr), .val (.int y2), .val (.int z2), .val (.int km), .val (.int a3), .val (.int b3), .val (.int c2), sl169_l15, .val (.ref b8), .val (.int (3 : Int32)), .val (.ref b67), .val (.ref b71), .val (.ref bm), .unset, .unset, .unset] [(.ref b8)]))
                    refine own_via (fun t k => XS.iload X73.here hx rfl (hb hby at_324) rfl k) ?_
                    show OwnEnds p.tables e below _ (T73.setTop (mkF m 326 #[.val (.int p0), .val (.int p1), .val (.int p2), .val (.int p3), .val (.int p4), .val (.long q5), .second, .val (.int x0), .val (.int nr), .val (.int y2), .val (.int z2), .val (.int km), .val (.int a3), .val (.int b3), .val (.int c2), sl169_l15, .val (.ref b8), .val (.int (3 : Int32)), .val (.ref b67), .val (.ref b71), .val (.ref bm), .unset, .unset, .unset] [(.int (3 : Int32)), (.ref b8)]))
                    refine own_via (fun t k => XS.iconst X73.here hx rfl (hb hby at_326) k) ?_
                    show OwnEnds p.tables e below _ (T73.setTop (mkF m 327 #[.val (.int p0), .val (.int p1), .val (.int p2), .val (.int p3), .val (.int p4), .val (.long q5), .second, .val (.int x0), .val (.int nr), .val (.int y2), .val (.int z2), .val (.int km), .val (.int a3), .val (.int b3), .val (.int c2), sl169_l15, .val (.ref b8), .val (.int (3 : Int32)), .val (.ref b67), .val (.ref b71), .val (.ref bm), .unset, .unset, .unset] [(.int (1 : Int32)), (.int (3 : Int32)), (.ref b8)]))
                    refine own_via (fun t k => XS.isub X73.here hx rfl (hb hby at_327) rfl k) ?_
                    show OwnEnds p.tables e below _ (T73.setTop (mkF m 328 #[.val (.int p0), .val (.int p1), .val (.int p2), .val (.int p3), .val (.int p4), .val (.long q5), .second, .val (.int x0), .val (.int nr), .val (.int y2), .val (.int z2), .val (.int km), .val (.int a3), .val (.int b3), .val (.int c2), sl169_l15, .val (.ref b8), .val (.int (3 : Int32)), .val (.ref b67), .val (.ref b71), .val (.ref bm), .unset, .unset, .unset] [(.int (2 : Int32)), (.ref b8)]))
                    refine own_via (own_ldI X73 hx hZ e73 A_b8 (v := (.int c2)) 2 rfl rfl (g := (mkF m 328 #[.val (.int p0), .val (.int p1), .val (.int p2), .val (.int p3), .val (.int p4), .val (.long q5), .second, .val (.int x0), .val (.int nr), .val (.int y2), .val (.int z2), .val (.int km), .val (.int a3), .val (.int b3), .val (.int c2), sl169_l15, .val (.ref b8), .val (.int (3 : Int32)), .val (.ref b67), .val (.ref b71), .val (.ref bm), .unset, .unset, .unset] [(.int (2 : Int32)), (.ref b8)])) rfl rfl (hb hby at_328)) ?_
                    show OwnEnds p.tables e below _ (T73.setTop (mkF m 329 #[.val (.int p0), .val (.int p1), .val (.int p2), .val (.int p3), .val (.int p4), .val (.long q5), .second, .val (.int x0), .val (.int nr), .val (.int y2), .val (.int z2), .val (.int km), .val (.int a3), .val (.int b3), .val (.int c2), sl169_l15, .val (.ref b8), .val (.int (3 : Int32)), .val (.ref b67), .val (.ref b71), .val (.ref bm), .unset, .unset, .unset] [(.int c2)]))
                    refine own_via (fun t k => XS.istore X73.here hx rfl (hb hby at_329) rfl (l' := #[.val (.int p0), .val (.int p1), .val (.int p2), .val (.int p3), .val (.int p4), .val (.long q5), .second, .val (.int x0), .val (.int nr), .val (.int y2), .val (.int z2), .val (.int km), .val (.int a3), .val (.int b3), .val (.int c2), sl169_l15, .val (.ref b8), .val (.int (3 : Int32)), .val (.ref b67), .val (.ref b71), .val (.ref bm), .val (.int c2), .unset, .unset]) rfl k) ?_
                    show OwnEnds p.tables e below _ (T73.setTop (mkF m 331 #[.val (.int p0), .val (.int p1), .val (.int p2), .val (.int p3), .val (.int p4), .val (.long q5), .second, .val (.int x0), .val (.int nr), .val (.int y2), .val (.int z2), .val (.int km), .val (.int a3), .val (.int b3), .val (.int c2), sl169_l15, .val (.ref b8), .val (.int (3 : Int32)), .val (.ref b67), .val (.ref b71), .val (.ref bm), .val (.int c2), .unset, .unset] []))
                    refine own_via (fun t k => XS.aload X73.here hx rfl (hb hby at_331) rfl rfl k) ?_
                    show OwnEnds p.tables e below _ (T73.setTop (mkF m 333 #[.val (.int p0), .val (.int p1), .val (.int p2), .val (.int p3), .val (.int p4), .val (.long q5), .second, .val (.int x0), .val (.int nr), .val (.int y2), .val (.int z2), .val (.int km), .val (.int a3), .val (.int b3), .val (.int c2), sl169_l15, .val (.ref b8), .val (.int (3 : Int32)), .val (.ref b67), .val (.ref b71), .val (.ref bm), .val (.int c2), .unset, .unset] [(.ref bm)]))
                    refine own_via (own_len X73 hx hZ e73 A_bm (z := ((c2 / (8 : Int32)) + (1 : Int32))) (by rw [own_bll]; exact (own_tl hr_c2).1) (g := (mkF m 333 #[.val (.int p0), .val (.int p1), .val (.int p2), .val (.int p3), .val (.int p4), .val (.long q5), .second, .val (.int x0), .val (.int nr), .val (.int y2), .val (.int z2), .val (.int km), .val (.int a3), .val (.int b3), .val (.int c2), sl169_l15, .val (.ref b8), .val (.int (3 : Int32)), .val (.ref b67), .val (.ref b71), .val (.ref bm), .val (.int c2), .unset, .unset] [(.ref bm)])) rfl rfl (hb hby at_333)) ?_
                    show OwnEnds p.tables e below _ (T73.setTop (mkF m 334 #[.val (.int p0), .val (.int p1), .val (.int p2), .val (.int p3), .val (.int p4), .val (.long q5), .second, .val (.int x0), .val (.int nr), .val (.int y2), .val (.int z2), .val (.int km), .val (.int a3), .val (.int b3), .val (.int c2), sl169_l15, .val (.ref b8), .val (.int (3 : Int32)), .val (.ref b67), .val (.ref b71), .val (.ref bm), .val (.int c2), .unset, .unset] [(.int ((c2 / (8 : Int32)) + (1 : Int32)))]))
                    refine own_via (fun t k => XS.iload X73.here hx rfl (hb hby at_334) rfl k) ?_
                    show OwnEnds p.tables e below _ (T73.setTop (mkF m 336 #[.val (.int p0), .val (.int p1), .val (.int p2), .val (.int p3), .val (.int p4), .val (.long q5), .second, .val (.int x0), .val (.int nr), .val (.int y2), .val (.int z2), .val (.int km), .val (.int a3), .val (.int b3), .val (.int c2), sl169_l15, .val (.ref b8), .val (.int (3 : Int32)), .val (.ref b67), .val (.ref b71), .val (.ref bm), .val (.int c2), .unset, .unset] [(.int c2), (.int ((c2 / (8 : Int32)) + (1 : Int32)))]))
                    refine own_via (fun t k => XS.bipush X73.here hx rfl (hb hby at_336) k) ?_
                    show OwnEnds p.tables e below _ (T73.setTop (mkF m 338 #[.val (.int p0), .val (.int p1), .val (.int p2), .val (.int p3), .val (.int p4), .val (.long q5), .second, .val (.int x0), .val (.int nr), .val (.int y2), .val (.int z2), .val (.int km), .val (.int a3), .val (.int b3), .val (.int c2), sl169_l15, .val (.ref b8), .val (.int (3 : Int32)), .val (.ref b67), .val (.ref b71), .val (.ref bm), .val (.int c2), .unset, .unset] [(.int (8 : Int32)), (.int c2), (.int ((c2 / (8 : Int32)) + (1 : Int32)))]))
                    refine own_via (fun t k => XS.idiv X73.here hx rfl (hb hby at_338) rfl (by decide) k) ?_
                    show OwnEnds p.tables e below _ (T73.setTop (mkF m 339 #[.val (.int p0), .val (.int p1), .val (.int p2), .val (.int p3), .val (.int p4), .val (.long q5), .second, .val (.int x0), .val (.int nr), .val (.int y2), .val (.int z2), .val (.int km), .val (.int a3), .val (.int b3), .val (.int c2), sl169_l15, .val (.ref b8), .val (.int (3 : Int32)), .val (.ref b67), .val (.ref b71), .val (.ref bm), .val (.int c2), .unset, .unset] [(.int (c2 / (8 : Int32))), (.int ((c2 / (8 : Int32)) + (1 : Int32)))]))
                    refine own_via (fun t k => XS.iconst X73.here hx rfl (hb hby at_339) k) ?_
                    show OwnEnds p.tables e below _ (T73.setTop (mkF m 340 #[.val (.int p0), .val (.int p1), .val (.int p2), .val (.int p3), .val (.int p4), .val (.long q5), .second, .val (.int x0), .val (.int nr), .val (.int y2), .val (.int z2), .val (.int km), .val (.int a3), .val (.int b3), .val (.int c2), sl169_l15, .val (.ref b8), .val (.int (3 : Int32)), .val (.ref b67), .val (.ref b71), .val (.ref bm), .val (.int c2), .unset, .unset] [(.int (1 : Int32)), (.int (c2 / (8 : Int32))), (.int ((c2 / (8 : Int32)) + (1 : Int32)))]))
                    refine own_via (fun t k => XS.iadd X73.here hx rfl (hb hby at_340) rfl k) ?_
                    show OwnEnds p.tables e below _ (T73.setTop (mkF m 341 #[.val (.int p0), .val (.int p1), .val (.int p2), .val (.int p3), .val (.int p4), .val (.long q5), .second, .val (.int x0), .val (.int nr), .val (.int y2), .val (.int z2), .val (.int km), .val (.int a3), .val (.int b3), .val (.int c2), sl169_l15, .val (.ref b8), .val (.int (3 : Int32)), .val (.ref b67), .val (.ref b71), .val (.ref bm), .val (.int c2), .unset, .unset] [(.int ((c2 / (8 : Int32)) + (1 : Int32))), (.int ((c2 / (8 : Int32)) + (1 : Int32)))]))
                    have hc341_74 : ((c2 / (8 : Int32)) + (1 : Int32)) = ((c2 / (8 : Int32)) + (1 : Int32)) := rfl
                    refine own_via (fun t k => XS.icmpYes X73.here hx rfl (pc0 := 341) (pc' := 346) rfl (hb hby at_341) rfl (teq hc341_74).1 (by decide) (by decide) k) ?_
                    show OwnEnds p.tables e below _ (T73.setTop (mkF m 346 #[.val (.int p0), .val (.int p1), .val (.int p2), .val (.int p3), .val (.int p4), .val (.long q5), .second, .val (.int x0), .val (.int nr), .val (.int y2), .val (.int z2), .val (.int km), .val (.int a3), .val (.int b3), .val (.int c2), sl169_l15, .val (.ref b8), .val (.int (3 : Int32)), .val (.ref b67), .val (.ref b71), .val (.ref bm), .val (.int c2), .unset, .unset] []))
                    refine own_via (fun t k => XS.aload X73.here hx rfl (hb hby at_346) rfl rfl k) ?_
                    show OwnEnds p.tables e below _ (T73.setTop (mkF m 348 #[.val (.int p0), .val (.int p1), .val (.int p2), .val (.int p3), .val (.int p4), .val (.long q5), .second, .val (.int x0), .val (.int nr), .val (.int y2), .val (.int z2), .val (.int km), .val (.int a3), .val (.int b3), .val (.int c2), sl169_l15, .val (.ref b8), .val (.int (3 : Int32)), .val (.ref b67), .val (.ref b71), .val (.ref bm), .val (.int c2), .unset, .unset] [(.ref bm)]))
                    refine own_via (fun t k => XS.aload X73.here hx rfl (hb hby at_348) rfl rfl k) ?_
                    show OwnEnds p.tables e below _ (T73.setTop (mkF m 350 #[.val (.int p0), .val (.int p1), .val (.int p2), .val (.int p3), .val (.int p4), .val (.long q5), .second, .val (.int x0), .val (.int nr), .val (.int y2), .val (.int z2), .val (.int km), .val (.int a3), .val (.int b3), .val (.int c2), sl169_l15, .val (.ref b8), .val (.int (3 : Int32)), .val (.ref b67), .val (.ref b71), .val (.ref bm), .val (.int c2), .unset, .unset] [(.ref b8), (.ref bm)]))
                    refine own_via (fun t k => XS.iload X73.here hx rfl (hb hby at_350) rfl k) ?_
                    show OwnEnds p.tables e below _ (T73.setTop (mkF m 352 #[.val (.int p0), .val (.int p1), .val (.int p2), .val (.int p3), .val (.int p4), .val (.long q5), .second, .val (.int x0), .val (.int nr), .val (.int y2), .val (.int z2), .val (.int km), .val (.int a3), .val (.int b3), .val (.int c2), sl169_l15, .val (.ref b8), .val (.int (3 : Int32)), .val (.ref b67), .val (.ref b71), .val (.ref bm), .val (.int c2), .unset, .unset] [(.int (3 : Int32)), (.ref b8), (.ref bm)]))
                    refine own_via (fun t k => XS.aload X73.here hx rfl (hb hby at_352) rfl rfl k) ?_
                    show OwnEnds p.tables e below _ (T73.setTop (mkF m 354 #[.val (.int p0), .val (.int p1), .val (.int p2), .val (.int p3), .val (.int p4), .val (.long q5), .second, .val (.int x0), .val (.int nr), .val (.int y2), .val (.int z2), .val (.int km), .val (.int a3), .val (.int b3), .val (.int c2), sl169_l15, .val (.ref b8), .val (.int (3 : Int32)), .val (.ref b67), .val (.ref b71), .val (.ref bm), .val (.int c2), .unset, .unset] [(.ref b8), (.int (3 : Int32)), (.ref b8), (.ref bm)]))
                    refine own_via (fun t k => XS.iconst X73.here hx rfl (hb hby at_354) k) ?_
                    show OwnEnds p.tables e below _ (T73.setTop (mkF m 355 #[.val (.int p0), .val (.int p1), .val (.int p2), .val (.int p3), .val (.int p4), .val (.long q5), .second, .val (.int x0), .val (.int nr), .val (.int y2), .val (.int z2), .val (.int km), .val (.int a3), .val (.int b3), .val (.int c2), sl169_l15, .val (.ref b8), .val (.int (3 : Int32)), .val (.ref b67), .val (.ref b71), .val (.ref bm), .val (.int c2), .unset, .unset] [(.int (0 : Int32)), (.ref b8), (.int (3 : Int32)), (.ref b8), (.ref bm)]))
                    refine own_via (own_ldI X73 hx hZ e73 A_b8 (v := (.int a3)) 0 rfl rfl (g := (mkF m 355 #[.val (.int p0), .val (.int p1), .val (.int p2), .val (.int p3), .val (.int p4), .val (.long q5), .second, .val (.int x0), .val (.int nr), .val (.int y2), .val (.int z2), .val (.int km), .val (.int a3), .val (.int b3), .val (.int c2), sl169_l15, .val (.ref b8), .val (.int (3 : Int32)), .val (.ref b67), .val (.ref b71), .val (.ref bm), .val (.int c2), .unset, .unset] [(.int (0 : Int32)), (.ref b8), (.int (3 : Int32)), (.ref b8), (.ref bm)])) rfl rfl (hb hby at_355)) ?_
                    show OwnEnds p.tables e below _ (T73.setTop (mkF m 356 #[.val (.int p0), .val (.int p1), .val (.int p2), .val (.int p3), .val (.int p4), .val (.long q5), .second, .val (.int x0), .val (.int nr), .val (.int y2), .val (.int z2), .val (.int km), .val (.int a3), .val (.int b3), .val (.int c2), sl169_l15, .val (.ref b8), .val (.int (3 : Int32)), .val (.ref b67), .val (.ref b71), .val (.ref bm), .val (.int c2), .unset, .unset] [(.int a3), (.int (3 : Int32)), (.ref b8), (.ref bm)]))
                    refine own_via (fun t k => XS.bipush X73.here hx rfl (hb hby at_356) k) ?_
                    show OwnEnds p.tables e below _ (T73.setTop (mkF m 358 #[.val (.int p0), .val (.int p1), .val (.int p2), .val (.int p3), .val (.int p4), .val (.long q5), .second, .val (.int x0), .val (.int nr), .val (.int y2), .val (.int z2), .val (.int km), .val (.int a3), .val (.int b3), .val (.int c2), sl169_l15, .val (.ref b8), .val (.int (3 : Int32)), .val (.ref b67), .val (.ref b71), .val (.ref bm), .val (.int c2), .unset, .unset] [(.int (8 : Int32)), (.int a3), (.int (3 : Int32)), (.ref b8), (.ref bm)]))
                    refine own_via (fun t k => XS.idiv X73.here hx rfl (hb hby at_358) rfl (by decide) k) ?_
                    show OwnEnds p.tables e below _ (T73.setTop (mkF m 359 #[.val (.int p0), .val (.int p1), .val (.int p2), .val (.int p3), .val (.int p4), .val (.long q5), .second, .val (.int x0), .val (.int nr), .val (.int y2), .val (.int z2), .val (.int km), .val (.int a3), .val (.int b3), .val (.int c2), sl169_l15, .val (.ref b8), .val (.int (3 : Int32)), .val (.ref b67), .val (.ref b71), .val (.ref bm), .val (.int c2), .unset, .unset] [(.int (a3 / (8 : Int32))), (.int (3 : Int32)), (.ref b8), (.ref bm)]))
                    obtain ⟨_, _, ⟨T75, L75, k75, n75⟩, -, X75, ⟨Lc75, hQ75, l75, y75, z75⟩, st75⟩ := Jvm.LawKit.callS X73 hx (y := (⟨"com/example/crowd_cache/crowdcache/core/BucketToBitmapPinLaw", "checkAt", "([B[III)Z"⟩ : MethodName)) hown (mvT hZ (hw _ (List.mem_of_getElem? (i := 22) rfl))) (mvT hZ (hw _ (List.mem_of_getElem? (i := 23) rfl))) (mvT hZ (hw _ (List.mem_of_getElem? (i := 24) rfl))) (mvT hZ (hw _ (List.mem_of_getElem? (i := 25) rfl))) (by decide) (backOf (W := 0) (rm43 l Z aw hw [] bm b8 (a3 / (8 : Int32)) a3 b3 c2 ((c2 / 8).toNatClampNeg + 1) ((a3 / (8 : Int32))).toNatClampNeg h73 n0 Zs_73 A_bm A_b8 (own_jd hr_a3 hr_c2 (Int.le_trans hab hbc)).1 (own_jd hr_a3 hr_c2 (Int.le_trans hab hbc)).2 hr_a3 hr_b3 hr_c2) hZ (hw _ (List.mem_of_getElem? (i := 25) rfl)) (hw _ (List.mem_of_getElem? (i := 24) rfl)) (by decide) (by decide)) (g := (mkF m 359 #[.val (.int p0), .val (.int p1), .val (.int p2), .val (.int p3), .val (.int p4), .val (.long q5), .second, .val (.int x0), .val (.int nr), .val (.int y2), .val (.int z2), .val (.int km), .val (.int a3), .val (.int b3), .val (.int c2), sl169_l15, .val (.ref b8), .val (.int (3 : Int32)), .val (.ref b67), .val (.ref b71), .val (.ref bm), .val (.int c2), .unset, .unset] [(.int (a3 / (8 : Int32))), (.int (3 : Int32)), (.ref b8), (.ref bm)])) rfl (by rw [hml]; rfl) (argsL := [(.ref bm), (.ref b8), (.int (3 : Int32)), (.int (a3 / (8 : Int32)))]) (rest := []) (lenOf pd_4 rfl) rfl (by show 2 * 0 + _ ≤ _; exact Nat.le_of_eq rfl) (hb hby at_359) (fun _ _ => ⟨rfl, e73, (by decide : 4 + 0 ≤ _), (by decide : 8200 + 0 ≤ _)⟩)
                    dsimp only [Pt.U, Pt.locs, Pt.cells, Pt.slots] at X75 l75 y75 z75 st75 hQ75
                    subst l75 y75 z75
                    obtain ⟨rfl, Nq75, e75⟩ := hQ75
                    have N75 := Fr.app N73 Nq75
                    replace e75 : T75.heap = h73 := e75
                    refine own_via st75 ?_
                    show OwnEnds p.tables e below _ (T75.setTop (mkF m 362 #[.val (.int p0), .val (.int p1), .val (.int p2), .val (.int p3), .val (.int p4), .val (.long q5), .second, .val (.int x0), .val (.int nr), .val (.int y2), .val (.int z2), .val (.int km), .val (.int a3), .val (.int b3), .val (.int c2), sl169_l15, .val (.ref b8), .val (.int (3 : Int32)), .val (.ref b67), .val (.ref b71), .val (.ref bm), .val (.int c2), .unset, .unset] [(.int (1 : Int32))]))
                    refine own_via (fun t k => XS.istore X75.here hx rfl (hb hby at_362) rfl (l' := #[.val (.int p0), .val (.int p1), .val (.int p2), .val (.int p3), .val (.int p4), .val (.long q5), .second, .val (.int x0), .val (.int nr), .val (.int y2), .val (.int z2), .val (.int km), .val (.int a3), .val (.int b3), .val (.int c2), sl169_l15, .val (.ref b8), .val (.int (3 : Int32)), .val (.ref b67), .val (.ref b71), .val (.ref bm), .val (.int c2), .val (.int (1 : Int32)), .unset]) rfl k) ?_
                    show OwnEnds p.tables e below _ (T75.setTop (mkF m 364 #[.val (.int p0), .val (.int p1), .val (.int p2), .val (.int p3), .val (.int p4), .val (.long q5), .second, .val (.int x0), .val (.int nr), .val (.int y2), .val (.int z2), .val (.int km), .val (.int a3), .val (.int b3), .val (.int c2), sl169_l15, .val (.ref b8), .val (.int (3 : Int32)), .val (.ref b67), .val (.ref b71), .val (.ref bm), .val (.int c2), .val (.int (1 : Int32)), .unset] []))
                    refine own_via (fun t k => XS.iload X75.here hx rfl (hb hby at_364) rfl k) ?_
                    show OwnEnds p.tables e below _ (T75.setTop (mkF m 366 #[.val (.int p0), .val (.int p1), .val (.int p2), .val (.int p3), .val (.int p4), .val (.long q5), .second, .val (.int x0), .val (.int nr), .val (.int y2), .val (.int z2), .val (.int km), .val (.int a3), .val (.int b3), .val (.int c2), sl169_l15, .val (.ref b8), .val (.int (3 : Int32)), .val (.ref b67), .val (.ref b71), .val (.ref bm), .val (.int c2), .val (.int (1 : Int32)), .unset] [(.int (3 : Int32))]))
                    refine own_via (fun t k => XS.iconst X75.here hx rfl (hb hby at_366) k) ?_
                    show OwnEnds p.tables e below _ (T75.setTop (mkF m 367 #[.val (.int p0), .val (.int p1), .val (.int p2), .val (.int p3), .val (.int p4), .val (.long q5), .second, .val (.int x0), .val (.int nr), .val (.int y2), .val (.int z2), .val (.int km), .val (.int a3), .val (.int b3), .val (.int c2), sl169_l15, .val (.ref b8), .val (.int (3 : Int32)), .val (.ref b67), .val (.ref b71), .val (.ref bm), .val (.int c2), .val (.int (1 : Int32)), .unset] [(.int (2 : Int32)), (.int (3 : Int32))]))
                    have hc367_76 : ¬ ((3 : Int32) < (2 : Int32)) := by decide
                    refine own_via (fun t k => XS.icmpNo X75.here hx rfl (hb hby at_367) rfl (flt hc367_76).1 k) ?_
                    show OwnEnds p.tables e below _ (T75.setTop (mkF m 370 #[.val (.int p0), .val (.int p1), .val (.int p2), .val (.int p3), .val (.int p4), .val (.long q5), .second, .val (.int x0), .val (.int nr), .val (.int y2), .val (.int z2), .val (.int km), .val (.int a3), .val (.int b3), .val (.int c2), sl169_l15, .val (.ref b8), .val (.int (3 : Int32)), .val (.ref b67), .val (.ref b71), .val (.ref bm), .val (.int c2), .val (.int (1 : Int32)), .unset] []))
                    refine own_via (fun t k => XS.iload X75.here hx rfl (hb hby at_370) rfl k) ?_
                    show OwnEnds p.tables e below _ (T75.setTop (mkF m 372 #[.val (.int p0), .val (.int p1), .val (.int p2), .val (.int p3), .val (.int p4), .val (.long q5), .second, .val (.int x0), .val (.int nr), .val (.int y2), .val (.int z2), .val (.int km), .val (.int a3), .val (.int b3), .val (.int c2), sl169_l15, .val (.ref b8), .val (.int (3 : Int32)), .val (.ref b67), .val (.ref b71), .val (.ref bm), .val (.int c2), .val (.int (1 : Int32)), .unset] [(.int (1 : Int32))]))
                    have hc372_77 : ¬ ((1 : Int32) = (0 : Int32)) := by decide
                    refine own_via (fun t k => XS.ifNo X75.here hx rfl (hb hby at_372) rfl ((if0 _ _).trans (feq hc372_77).1) k) ?_
                    show OwnEnds p.tables e below _ (T75.setTop (mkF m 375 #[.val (.int p0), .val (.int p1), .val (.int p2), .val (.int p3), .val (.int p4), .val (.long q5), .second, .val (.int x0), .val (.int nr), .val (.int y2), .val (.int z2), .val (.int km), .val (.int a3), .val (.int b3), .val (.int c2), sl169_l15, .val (.ref b8), .val (.int (3 : Int32)), .val (.ref b67), .val (.ref b71), .val (.ref bm), .val (.int c2), .val (.int (1 : Int32)), .unset] []))
                    refine own_via (fun t k => XS.aload X75.here hx rfl (hb hby at_375) rfl rfl k) ?_
                    show OwnEnds p.tables e below _ (T75.setTop (mkF m 377 #[.val (.int p0), .val (.int p1), .val (.int p2), .val (.int p3), .val (.int p4), .val (.long q5), .second, .val (.int x0), .val (.int nr), .val (.int y2), .val (.int z2), .val (.int km), .val (.int a3), .val (.int b3), .val (.int c2), sl169_l15, .val (.ref b8), .val (.int (3 : Int32)), .val (.ref b67), .val (.ref b71), .val (.ref bm), .val (.int c2), .val (.int (1 : Int32)), .unset] [(.ref bm)]))
                    refine own_via (fun t k => XS.aload X75.here hx rfl (hb hby at_377) rfl rfl k) ?_
                    show OwnEnds p.tables e below _ (T75.setTop (mkF m 379 #[.val (.int p0), .val (.int p1), .val (.int p2), .val (.int p3), .val (.int p4), .val (.long q5), .second, .val (.int x0), .val (.int nr), .val (.int y2), .val (.int z2), .val (.int km), .val (.int a3), .val (.int b3), .val (.int c2), sl169_l15, .val (.ref b8), .val (.int (3 : Int32)), .val (.ref b67), .val (.ref b71), .val (.ref bm), .val (.int c2), .val (.int (1 : Int32)), .unset] [(.ref b8), (.ref bm)]))
                    refine own_via (fun t k => XS.iload X75.here hx rfl (hb hby at_379) rfl k) ?_
                    show OwnEnds p.tables e below _ (T75.setTop (mkF m 381 #[.val (.int p0), .val (.int p1), .val (.int p2), .val (.int p3), .val (.int p4), .val (.long q5), .second, .val (.int x0), .val (.int nr), .val (.int y2), .val (.int z2), .val (.int km), .val (.int a3), .val (.int b3), .val (.int c2), sl169_l15, .val (.ref b8), .val (.int (3 : Int32)), .val (.ref b67), .val (.ref b71), .val (.ref bm), .val (.int c2), .val (.int (1 : Int32)), .unset] [(.int (3 : Int32)), (.ref b8), (.ref bm)]))
                    refine own_via (fun t k => XS.aload X75.here hx rfl (hb hby at_381) rfl rfl k) ?_
                    show OwnEnds p.tables e below _ (T75.setTop (mkF m 383 #[.val (.int p0), .val (.int p1), .val (.int p2), .val (.int p3), .val (.int p4), .val (.long q5), .second, .val (.int x0), .val (.int nr), .val (.int y2), .val (.int z2), .val (.int km), .val (.int a3), .val (.int b3), .val (.int c2), sl169_l15, .val (.ref b8), .val (.int (3 : Int32)), .val (.ref b67), .val (.ref b71), .val (.ref bm), .val (.int c2), .val (.int (1 : Int32)), .unset] [(.ref b8), (.int (3 : Int32)), (.ref b8), (.ref bm)]))
                    refine own_via (fun t k => XS.iconst X75.here hx rfl (hb hby at_383) k) ?_
                    show OwnEnds p.tables e below _ (T75.setTop (mkF m 384 #[.val (.int p0), .val (.int p1), .val (.int p2), .val (.int p3), .val (.int p4), .val (.long q5), .second, .val (.int x0), .val (.int nr), .val (.int y2), .val (.int z2), .val (.int km), .val (.int a3), .val (.int b3), .val (.int c2), sl169_l15, .val (.ref b8), .val (.int (3 : Int32)), .val (.ref b67), .val (.ref b71), .val (.ref bm), .val (.int c2), .val (.int (1 : Int32)), .unset] [(.int (1 : Int32)), (.ref b8), (.int (3 : Int32)), (.ref b8), (.ref bm)]))
                    refine own_via (own_ldI X75 hx hZ e75 A_b8 (v := (.int b3)) 1 rfl rfl (g := (mkF m 384 #[.val (.int p0), .val (.int p1), .val (.int p2), .val (.int p3), .val (.int p4), .val (.long q5), .second, .val (.int x0), .val (.int nr), .val (.int y2), .val (.int z2), .val (.int km), .val (.int a3), .val (.int b3), .val (.int c2), sl169_l15, .val (.ref b8), .val (.int (3 : Int32)), .val (.ref b67), .val (.ref b71), .val (.ref bm), .val (.int c2), .val (.int (1 : Int32)), .unset] [(.int (1 : Int32)), (.ref b8), (.int (3 : Int32)), (.ref b8), (.ref bm)])) rfl rfl (hb hby at_384)) ?_
                    show OwnEnds p.tables e below _ (T75.setTop (mkF m 385 #[.val (.int p0), .val (.int p1), .val (.int p2), .val (.int p3), .val (.int p4), .val (.long q5), .second, .val (.int x0), .val (.int nr), .val (.int y2), .val (.int z2), .val (.int km), .val (.int a3), .val (.int b3), .val (.int c2), sl169_l15, .val (.ref b8), .val (.int (3 : Int32)), .val (.ref b67), .val (.ref b71), .val (.ref bm), .val (.int c2), .val (.int (1 : Int32)), .unset] [(.int b3), (.int (3 : Int32)), (.ref b8), (.ref bm)]))
                    refine own_via (fun t k => XS.bipush X75.here hx rfl (hb hby at_385) k) ?_
                    show OwnEnds p.tables e below _ (T75.setTop (mkF m 387 #[.val (.int p0), .val (.int p1), .val (.int p2), .val (.int p3), .val (.int p4), .val (.long q5), .second, .val (.int x0), .val (.int nr), .val (.int y2), .val (.int z2), .val (.int km), .val (.int a3), .val (.int b3), .val (.int c2), sl169_l15, .val (.ref b8), .val (.int (3 : Int32)), .val (.ref b67), .val (.ref b71), .val (.ref bm), .val (.int c2), .val (.int (1 : Int32)), .unset] [(.int (8 : Int32)), (.int b3), (.int (3 : Int32)), (.ref b8), (.ref bm)]))
                    refine own_via (fun t k => XS.idiv X75.here hx rfl (hb hby at_387) rfl (by decide) k) ?_
                    show OwnEnds p.tables e below _ (T75.setTop (mkF m 388 #[.val (.int p0), .val (.int p1), .val (.int p2), .val (.int p3), .val (.int p4), .val (.long q5), .second, .val (.int x0), .val (.int nr), .val (.int y2), .val (.int z2), .val (.int km), .val (.int a3), .val (.int b3), .val (.int c2), sl169_l15, .val (.ref b8), .val (.int (3 : Int32)), .val (.ref b67), .val (.ref b71), .val (.ref bm), .val (.int c2), .val (.int (1 : Int32)), .unset] [(.int (b3 / (8 : Int32))), (.int (3 : Int32)), (.ref b8), (.ref bm)]))
                    obtain ⟨_, _, ⟨T78, L78, k78, n78⟩, -, X78, ⟨Lc78, hQ78, l78, y78, z78⟩, st78⟩ := Jvm.LawKit.callS X75 hx (y := (⟨"com/example/crowd_cache/crowdcache/core/BucketToBitmapPinLaw", "checkAt", "([B[III)Z"⟩ : MethodName)) hown (mvT hZ (hw _ (List.mem_of_getElem? (i := 22) rfl))) (mvT hZ (hw _ (List.mem_of_getElem? (i := 23) rfl))) (mvT hZ (hw _ (List.mem_of_getElem? (i := 24) rfl))) (mvT hZ (hw _ (List.mem_of_getElem? (i := 25) rfl))) (by decide) (backOf (W := 0) (rm43 l Z aw hw [] bm b8 (b3 / (8 : Int32)) a3 b3 c2 ((c2 / 8).toNatClampNeg + 1) ((b3 / (8 : Int32))).toNatClampNeg h73 n0 Zs_73 A_bm A_b8 (own_jd hr_b3 hr_c2 (hbc)).1 (own_jd hr_b3 hr_c2 (hbc)).2 hr_a3 hr_b3 hr_c2) hZ (hw _ (List.mem_of_getElem? (i := 25) rfl)) (hw _ (List.mem_of_getElem? (i := 24) rfl)) (by decide) (by decide)) (g := (mkF m 388 #[.val (.int p0), .val (.int p1), .val (.int p2), .val (.int p3), .val (.int p4), .val (.long q5), .second, .val (.int x0), .val (.int nr), .val (.int y2), .val (.int z2), .val (.int km), .val (.int a3), .val (.int b3), .val (.int c2), sl169_l15, .val (.ref b8), .val (.int (3 : Int32)), .val (.ref b67), .val (.ref b71), .val (.ref bm), .val (.int c2), .val (.int (1 : Int32)), .unset] [(.int (b3 / (8 : Int32))), (.int (3 : Int32)), (.ref b8), (.ref bm)])) rfl (by rw [hml]; rfl) (argsL := [(.ref bm), (.ref b8), (.int (3 : Int32)), (.int (b3 / (8 : Int32)))]) (rest := []) (lenOf pd_4 rfl) rfl (by show 2 * 0 + _ ≤ _; exact Nat.le_of_eq rfl) (hb hby at_388) (fun _ _ => ⟨rfl, e75, (by decide : 4 + 0 ≤ _), (by decide : 8200 + 0 ≤ _)⟩)
                    dsimp only [Pt.U, Pt.locs, Pt.cells, Pt.slots] at X78 l78 y78 z78 st78 hQ78
                    subst l78 y78 z78
                    obtain ⟨rfl, Nq78, e78⟩ := hQ78
                    have N78 := Fr.app N75 Nq78
                    replace e78 : T78.heap = h73 := e78
                    refine own_via st78 ?_
                    show OwnEnds p.tables e below _ (T78.setTop (mkF m 391 #[.val (.int p0), .val (.int p1), .val (.int p2), .val (.int p3), .val (.int p4), .val (.long q5), .second, .val (.int x0), .val (.int nr), .val (.int y2), .val (.int z2), .val (.int km), .val (.int a3), .val (.int b3), .val (.int c2), sl169_l15, .val (.ref b8), .val (.int (3 : Int32)), .val (.ref b67), .val (.ref b71), .val (.ref bm), .val (.int c2), .val (.int (1 : Int32)), .unset] [(.int (1 : Int32))]))
                    have hc391_79 : ¬ ((1 : Int32) = (0 : Int32)) := by decide
                    refine own_via (fun t k => XS.ifNo X78.here hx rfl (hb hby at_391) rfl ((if0 _ _).trans (feq hc391_79).1) k) ?_
                    show OwnEnds p.tables e below _ (T78.setTop (mkF m 394 #[.val (.int p0), .val (.int p1), .val (.int p2), .val (.int p3), .val (.int p4), .val (.long q5), .second, .val (.int x0), .val (.int nr), .val (.int y2), .val (.int z2), .val (.int km), .val (.int a3), .val (.int b3), .val (.int c2), sl169_l15, .val (.ref b8), .val (.int (3 : Int32)), .val (.ref b67), .val (.ref b71), .val (.ref bm), .val (.int c2), .val (.int (1 : Int32)), .unset] []))
                    refine own_via (fun t k => XS.iconst X78.here hx rfl (hb hby at_394) k) ?_
                    show OwnEnds p.tables e below _ (T78.setTop (mkF m 395 #[.val (.int p0), .val (.int p1), .val (.int p2), .val (.int p3), .val (.int p4), .val (.long q5), .second, .val (.int x0), .val (.int nr), .val (.int y2), .val (.int z2), .val (.int km), .val (.int a3), .val (.int b3), .val (.int c2), sl169_l15, .val (.ref b8), .val (.int (3 : Int32)), .val (.ref b67), .val (.ref b71), .val (.ref bm), .val (.int c2), .val (.int (1 : Int32)), .unset] [(.int (1 : Int32))]))
                    refine own_via (fun t k => XS.goto X78.here hx rfl (pc0 := 395) (pc' := 399) rfl (hb hby at_395) (by decide) (by decide) k) ?_
                    show OwnEnds p.tables e below _ (T78.setTop (mkF m 399 #[.val (.int p0), .val (.int p1), .val (.int p2), .val (.int p3), .val (.int p4), .val (.long q5), .second, .val (.int x0), .val (.int nr), .val (.int y2), .val (.int z2), .val (.int km), .val (.int a3), .val (.int b3), .val (.int c2), sl169_l15, .val (.ref b8), .val (.int (3 : Int32)), .val (.ref b67), .val (.ref b71), .val (.ref bm), .val (.int c2), .val (.int (1 : Int32)), .unset] [(.int (1 : Int32))]))
                    refine own_via (fun t k => XS.istore X78.here hx rfl (hb hby at_399) rfl (l' := #[.val (.int p0), .val (.int p1), .val (.int p2), .val (.int p3), .val (.int p4), .val (.long q5), .second, .val (.int x0), .val (.int nr), .val (.int y2), .val (.int z2), .val (.int km), .val (.int a3), .val (.int b3), .val (.int c2), sl169_l15, .val (.ref b8), .val (.int (3 : Int32)), .val (.ref b67), .val (.ref b71), .val (.ref bm), .val (.int c2), .val (.int (1 : Int32)), .unset]) rfl k) ?_
                    show OwnEnds p.tables e below _ (T78.setTop (mkF m 401 #[.val (.int p0), .val (.int p1), .val (.int p2), .val (.int p3), .val (.int p4), .val (.long q5), .second, .val (.int x0), .val (.int nr), .val (.int y2), .val (.int z2), .val (.int km), .val (.int a3), .val (.int b3), .val (.int c2), sl169_l15, .val (.ref b8), .val (.int (3 : Int32)), .val (.ref b67), .val (.ref b71), .val (.ref bm), .val (.int c2), .val (.int (1 : Int32)), .unset] []))
                    refine own_via (fun t k => XS.iload X78.here hx rfl (hb hby at_401) rfl k) ?_
                    show OwnEnds p.tables e below _ (T78.setTop (mkF m 403 #[.val (.int p0), .val (.int p1), .val (.int p2), .val (.int p3), .val (.int p4), .val (.long q5), .second, .val (.int x0), .val (.int nr), .val (.int y2), .val (.int z2), .val (.int km), .val (.int a3), .val (.int b3), .val (.int c2), sl169_l15, .val (.ref b8), .val (.int (3 : Int32)), .val (.ref b67), .val (.ref b71), .val (.ref bm), .val (.int c2), .val (.int (1 : Int32)), .unset] [(.int (3 : Int32))]))
                    refine own_via (fun t k => XS.iconst X78.here hx rfl (hb hby at_403) k) ?_
                    show OwnEnds p.tables e below _ (T78.setTop (mkF m 404 #[.val (.int p0), .val (.int p1), .val (.int p2), .val (.int p3), .val (.int p4), .val (.long q5), .second, .val (.int x0), .val (.int nr), .val (.int y2), .val (.int z2), .val (.int km), .val (.int a3), .val (.int b3), .val (.int c2), sl169_l15, .val (.ref b8), .val (.int (3 : Int32)), .val (.ref b67), .val (.ref b71), .val (.ref bm), .val (.int c2), .val (.int (1 : Int32)), .unset] [(.int (3 : Int32)), (.int (3 : Int32))]))
                    have hc404_80 : ¬ ((3 : Int32) < (3 : Int32)) := by decide
                    refine own_via (fun t k => XS.icmpNo X78.here hx rfl (hb hby at_404) rfl (flt hc404_80).1 k) ?_
                    show OwnEnds p.tables e below _ (T78.setTop (mkF m 407 #[.val (.int p0), .val (.int p1), .val (.int p2), .val (.int p3), .val (.int p4), .val (.long q5), .second, .val (.int x0), .val (.int nr), .val (.int y2), .val (.int z2), .val (.int km), .val (.int a3), .val (.int b3), .val (.int c2), sl169_l15, .val (.ref b8), .val (.int (3 : Int32)), .val (.ref b67), .val (.ref b71), .val (.ref bm), .val (.int c2), .val (.int (1 : Int32)), .unset] []))
                    refine own_via (fun t k => XS.iload X78.here hx rfl (hb hby at_407) rfl k) ?_
                    show OwnEnds p.tables e below _ (T78.setTop (mkF m 409 #[.val (.int p0), .val (.int p1), .val (.int p2), .val (.int p3), .val (.int p4), .val (.long q5), .second, .val (.int x0), .val (.int nr), .val (.int y2), .val (.int z2), .val (.int km), .val (.int a3), .val (.int b3), .val (.int c2), sl169_l15, .val (.ref b8), .val (.int (3 : Int32)), .val (.ref b67), .val (.ref b71), .val (.ref bm), .val (.int c2), .val (.int (1 : Int32)), .unset] [(.int (1 : Int32))]))
                    have hc409_81 : ¬ ((1 : Int32) = (0 : Int32)) := by decide
                    refine own_via (fun t k => XS.ifNo X78.here hx rfl (hb hby at_409) rfl ((if0 _ _).trans (feq hc409_81).1) k) ?_
                    show OwnEnds p.tables e below _ (T78.setTop (mkF m 412 #[.val (.int p0), .val (.int p1), .val (.int p2), .val (.int p3), .val (.int p4), .val (.long q5), .second, .val (.int x0), .val (.int nr), .val (.int y2), .val (.int z2), .val (.int km), .val (.int a3), .val (.int b3), .val (.int c2), sl169_l15, .val (.ref b8), .val (.int (3 : Int32)), .val (.ref b67), .val (.ref b71), .val (.ref bm), .val (.int c2), .val (.int (1 : Int32)), .unset] []))
                    refine own_via (fun t k => XS.aload X78.here hx rfl (hb hby at_412) rfl rfl k) ?_
                    show OwnEnds p.tables e below _ (T78.setTop (mkF m 414 #[.val (.int p0), .val (.int p1), .val (.int p2), .val (.int p3), .val (.int p4), .val (.long q5), .second, .val (.int x0), .val (.int nr), .val (.int y2), .val (.int z2), .val (.int km), .val (.int a3), .val (.int b3), .val (.int c2), sl169_l15, .val (.ref b8), .val (.int (3 : Int32)), .val (.ref b67), .val (.ref b71), .val (.ref bm), .val (.int c2), .val (.int (1 : Int32)), .unset] [(.ref bm)]))
                    refine own_via (fun t k => XS.aload X78.here hx rfl (hb hby at_414) rfl rfl k) ?_
                    show OwnEnds p.tables e below _ (T78.setTop (mkF m 416 #[.val (.int p0), .val (.int p1), .val (.int p2), .val (.int p3), .val (.int p4), .val (.long q5), .second, .val (.int x0), .val (.int nr), .val (.int y2), .val (.int z2), .val (.int km), .val (.int a3), .val (.int b3), .val (.int c2), sl169_l15, .val (.ref b8), .val (.int (3 : Int32)), .val (.ref b67), .val (.ref b71), .val (.ref bm), .val (.int c2), .val (.int (1 : Int32)), .unset] [(.ref b8), (.ref bm)]))
                    refine own_via (fun t k => XS.iload X78.here hx rfl (hb hby at_416) rfl k) ?_
                    show OwnEnds p.tables e below _ (T78.setTop (mkF m 418 #[.val (.int p0), .val (.int p1), .val (.int p2), .val (.int p3), .val (.int p4), .val (.long q5), .second, .val (.int x0), .val (.int nr), .val (.int y2), .val (.int z2), .val (.int km), .val (.int a3), .val (.int b3), .val (.int c2), sl169_l15, .val (.ref b8), .val (.int (3 : Int32)), .val (.ref b67), .val (.ref b71), .val (.ref bm), .val (.int c2), .val (.int (1 : Int32)), .unset] [(.int (3 : Int32)), (.ref b8), (.ref bm)]))
                    refine own_via (fun t k => XS.aload X78.here hx rfl (hb hby at_418) rfl rfl k) ?_
                    show OwnEnds p.tables e below _ (T78.setTop (mkF m 420 #[.val (.int p0), .val (.int p1), .val (.int p2), .val (.int p3), .val (.int p4), .val (.long q5), .second, .val (.int x0), .val (.int nr), .val (.int y2), .val (.int z2), .val (.int km), .val (.int a3), .val (.int b3), .val (.int c2), sl169_l15, .val (.ref b8), .val (.int (3 : Int32)), .val (.ref b67), .val (.ref b71), .val (.ref bm), .val (.int c2), .val (.int (1 : Int32)), .unset] [(.ref b8), (.int (3 : Int32)), (.ref b8), (.ref bm)]))
                    refine own_via (fun t k => XS.iconst X78.here hx rfl (hb hby at_420) k) ?_
                    show OwnEnds p.tables e below _ (T78.setTop (mkF m 421 #[.val (.int p0), .val (.int p1), .val (.int p2), .val (.int p3), .val (.int p4), .val (.long q5), .second, .val (.int x0), .val (.int nr), .val (.int y2), .val (.int z2), .val (.int km), .val (.int a3), .val (.int b3), .val (.int c2), sl169_l15, .val (.ref b8), .val (.int (3 : Int32)), .val (.ref b67), .val (.ref b71), .val (.ref bm), .val (.int c2), .val (.int (1 : Int32)), .unset] [(.int (2 : Int32)), (.ref b8), (.int (3 : Int32)), (.ref b8), (.ref bm)]))
                    refine own_via (own_ldI X78 hx hZ e78 A_b8 (v := (.int c2)) 2 rfl rfl (g := (mkF m 421 #[.val (.int p0), .val (.int p1), .val (.int p2), .val (.int p3), .val (.int p4), .val (.long q5), .second, .val (.int x0), .val (.int nr), .val (.int y2), .val (.int z2), .val (.int km), .val (.int a3), .val (.int b3), .val (.int c2), sl169_l15, .val (.ref b8), .val (.int (3 : Int32)), .val (.ref b67), .val (.ref b71), .val (.ref bm), .val (.int c2), .val (.int (1 : Int32)), .unset] [(.int (2 : Int32)), (.ref b8), (.int (3 : Int32)), (.ref b8), (.ref bm)])) rfl rfl (hb hby at_421)) ?_
                    show OwnEnds p.tables e below _ (T78.setTop (mkF m 422 #[.val (.int p0), .val (.int p1), .val (.int p2), .val (.int p3), .val (.int p4), .val (.long q5), .second, .val (.int x0), .val (.int nr), .val (.int y2), .val (.int z2), .val (.int km), .val (.int a3), .val (.int b3), .val (.int c2), sl169_l15, .val (.ref b8), .val (.int (3 : Int32)), .val (.ref b67), .val (.ref b71), .val (.ref bm), .val (.int c2), .val (.int (1 : Int32)), .unset] [(.int c2), (.int (3 : Int32)), (.ref b8), (.ref bm)]))
                    refine own_via (fun t k => XS.bipush X78.here hx rfl (hb hby at_422) k) ?_
                    show OwnEnds p.tables e below _ (T78.setTop (mkF m 424 #[.val (.int p0), .val (.int p1), .val (.int p2), .val (.int p3), .val (.int p4), .val (.long q5), .second, .val (.int x0), .val (.int nr), .val (.int y2), .val (.int z2), .val (.int km), .val (.int a3), .val (.int b3), .val (.int c2), sl169_l15, .val (.ref b8), .val (.int (3 : Int32)), .val (.ref b67), .val (.ref b71), .val (.ref bm), .val (.int c2), .val (.int (1 : Int32)), .unset] [(.int (8 : Int32)), (.int c2), (.int (3 : Int32)), (.ref b8), (.ref bm)]))
                    refine own_via (fun t k => XS.idiv X78.here hx rfl (hb hby at_424) rfl (by decide) k) ?_
                    show OwnEnds p.tables e below _ (T78.setTop (mkF m 425 #[.val (.int p0), .val (.int p1), .val (.int p2), .val (.int p3), .val (.int p4), .val (.long q5), .second, .val (.int x0), .val (.int nr), .val (.int y2), .val (.int z2), .val (.int km), .val (.int a3), .val (.int b3), .val (.int c2), sl169_l15, .val (.ref b8), .val (.int (3 : Int32)), .val (.ref b67), .val (.ref b71), .val (.ref bm), .val (.int c2), .val (.int (1 : Int32)), .unset] [(.int (c2 / (8 : Int32))), (.int (3 : Int32)), (.ref b8), (.ref bm)]))
                    obtain ⟨_, _, ⟨T82, L82, k82, n82⟩, -, X82, ⟨Lc82, hQ82, l82, y82, z82⟩, st82⟩ := Jvm.LawKit.callS X78 hx (y := (⟨"com/example/crowd_cache/crowdcache/core/BucketToBitmapPinLaw", "checkAt", "([B[III)Z"⟩ : MethodName)) hown (mvT hZ (hw _ (List.mem_of_getElem? (i := 22) rfl))) (mvT hZ (hw _ (List.mem_of_getElem? (i := 23) rfl))) (mvT hZ (hw _ (List.mem_of_getElem? (i := 24) rfl))) (mvT hZ (hw _ (List.mem_of_getElem? (i := 25) rfl))) (by decide) (backOf (W := 0) (rm43 l Z aw hw [] bm b8 (c2 / (8 : Int32)) a3 b3 c2 ((c2 / 8).toNatClampNeg + 1) ((c2 / (8 : Int32))).toNatClampNeg h73 n0 Zs_73 A_bm A_b8 (own_jd hr_c2 hr_c2 (Int.le_refl _)).1 (own_jd hr_c2 hr_c2 (Int.le_refl _)).2 hr_a3 hr_b3 hr_c2) hZ (hw _ (List.mem_of_getElem? (i := 25) rfl)) (hw _ (List.mem_of_getElem? (i := 24) rfl)) (by decide) (by decide)) (g := (mkF m 425 #[.val (.int p0), .val (.int p1), .val (.int p2), .val (.int p3), .val (.int p4), .val (.long q5), .second, .val (.int x0), .val (.int nr), .val (.int y2), .val (.int z2), .val (.int km), .val (.int a3), .val (.int b3), .val (.int c2), sl169_l15, .val (.ref b8), .val (.int (3 : Int32)), .val (.ref b67), .val (.ref b71), .val (.ref bm), .val (.int c2), .val (.int (1 : Int32)), .unset] [(.int (c2 / (8 : Int32))), (.int (3 : Int32)), (.ref b8), (.ref bm)])) rfl (by rw [hml]; rfl) (argsL := [(.ref bm), (.ref b8), (.int (3 : Int32)), (.int (c2 / (8 : Int32)))]) (rest := []) (lenOf pd_4 rfl) rfl (by show 2 * 0 + _ ≤ _; exact Nat.le_of_eq rfl) (hb hby at_425) (fun _ _ => ⟨rfl, e78, (by decide : 4 + 0 ≤ _), (by decide : 8200 + 0 ≤ _)⟩)
                    dsimp only [Pt.U, Pt.locs, Pt.cells, Pt.slots] at X82 l82 y82 z82 st82 hQ82
                    subst l82 y82 z82
                    obtain ⟨rfl, Nq82, e82⟩ := hQ82
                    have N82 := Fr.app N78 Nq82
                    replace e82 : T82.heap = h73 := e82
                    refine own_via st82 ?_
                    show OwnEnds p.tables e below _ (T82.setTop (mkF m 428 #[.val (.int p0), .val (.int p1), .val (.int p2), .val (.int p3), .val (.int p4), .val (.long q5), .second, .val (.int x0), .val (.int nr), .val (.int y2), .val (.int z2), .val (.int km), .val (.int a3), .val (.int b3), .val (.int c2), sl169_l15, .val (.ref b8), .val (.int (3 : Int32)), .val (.ref b67), .val (.ref b71), .val (.ref bm), .val (.int c2), .val (.int (1 : Int32)), .unset] [(.int (1 : Int32))]))
                    have hc428_83 : ¬ ((1 : Int32) = (0 : Int32)) := by decide
                    refine own_via (fun t k => XS.ifNo X82.here hx rfl (hb hby at_428) rfl ((if0 _ _).trans (feq hc428_83).1) k) ?_
                    show OwnEnds p.tables e below _ (T82.setTop (mkF m 431 #[.val (.int p0), .val (.int p1), .val (.int p2), .val (.int p3), .val (.int p4), .val (.long q5), .second, .val (.int x0), .val (.int nr), .val (.int y2), .val (.int z2), .val (.int km), .val (.int a3), .val (.int b3), .val (.int c2), sl169_l15, .val (.ref b8), .val (.int (3 : Int32)), .val (.ref b67), .val (.ref b71), .val (.ref bm), .val (.int c2), .val (.int (1 : Int32)), .unset] []))
                    refine own_via (fun t k => XS.iconst X82.here hx rfl (hb hby at_431) k) ?_
                    show OwnEnds p.tables e below _ (T82.setTop (mkF m 432 #[.val (.int p0), .val (.int p1), .val (.int p2), .val (.int p3), .val (.int p4), .val (.long q5), .second, .val (.int x0), .val (.int nr), .val (.int y2), .val (.int z2), .val (.int km), .val (.int a3), .val (.int b3), .val (.int c2), sl169_l15, .val (.ref b8), .val (.int (3 : Int32)), .val (.ref b67), .val (.ref b71), .val (.ref bm), .val (.int c2), .val (.int (1 : Int32)), .unset] [(.int (1 : Int32))]))
                    refine own_via (fun t k => XS.goto X82.here hx rfl (pc0 := 432) (pc' := 436) rfl (hb hby at_432) (by decide) (by decide) k) ?_
                    show OwnEnds p.tables e below _ (T82.setTop (mkF m 436 #[.val (.int p0), .val (.int p1), .val (.int p2), .val (.int p3), .val (.int p4), .val (.long q5), .second, .val (.int x0), .val (.int nr), .val (.int y2), .val (.int z2), .val (.int km), .val (.int a3), .val (.int b3), .val (.int c2), sl169_l15, .val (.ref b8), .val (.int (3 : Int32)), .val (.ref b67), .val (.ref b71), .val (.ref bm), .val (.int c2), .val (.int (1 : Int32)), .unset] [(.int (1 : Int32))]))
                    refine own_via (fun t k => XS.istore X82.here hx rfl (hb hby at_436) rfl (l' := #[.val (.int p0), .val (.int p1), .val (.int p2), .val (.int p3), .val (.int p4), .val (.long q5), .second, .val (.int x0), .val (.int nr), .val (.int y2), .val (.int z2), .val (.int km), .val (.int a3), .val (.int b3), .val (.int c2), sl169_l15, .val (.ref b8), .val (.int (3 : Int32)), .val (.ref b67), .val (.ref b71), .val (.ref bm), .val (.int c2), .val (.int (1 : Int32)), .unset]) rfl k) ?_
                    show OwnEnds p.tables e below _ (T82.setTop (mkF m 438 #[.val (.int p0), .val (.int p1), .val (.int p2), .val (.int p3), .val (.int p4), .val (.long q5), .second, .val (.int x0), .val (.int nr), .val (.int y2), .val (.int z2), .val (.int km), .val (.int a3), .val (.int b3), .val (.int c2), sl169_l15, .val (.ref b8), .val (.int (3 : Int32)), .val (.ref b67), .val (.ref b71), .val (.ref bm), .val (.int c2), .val (.int (1 : Int32)), .unset] []))
                    refine own_via (fun t k => XS.iload X82.here hx rfl (hb hby at_438) rfl k) ?_
                    show OwnEnds p.tables e below _ (T82.setTop (mkF m 440 #[.val (.int p0), .val (.int p1), .val (.int p2), .val (.int p3), .val (.int p4), .val (.long q5), .second, .val (.int x0), .val (.int nr), .val (.int y2), .val (.int z2), .val (.int km), .val (.int a3), .val (.int b3), .val (.int c2), sl169_l15, .val (.ref b8), .val (.int (3 : Int32)), .val (.ref b67), .val (.ref b71), .val (.ref bm), .val (.int c2), .val (.int (1 : Int32)), .unset] [(.int p4)]))
                    refine own_via (X82.ldcInt hx hown (mvT hZ (hw _ (List.mem_of_getElem? (i := 32) rfl))) (g := (mkF m 440 #[.val (.int p0), .val (.int p1), .val (.int p2), .val (.int p3), .val (.int p4), .val (.long q5), .second, .val (.int x0), .val (.int nr), .val (.int y2), .val (.int z2), .val (.int km), .val (.int a3), .val (.int b3), .val (.int c2), sl169_l15, .val (.ref b8), .val (.int (3 : Int32)), .val (.ref b67), .val (.ref b71), .val (.ref bm), .val (.int c2), .val (.int (1 : Int32)), .unset] [(.int p4)])) rfl (hb hby at_440)) ?_
                    show OwnEnds p.tables e below _ (T82.setTop (mkF m 442 #[.val (.int p0), .val (.int p1), .val (.int p2), .val (.int p3), .val (.int p4), .val (.long q5), .second, .val (.int x0), .val (.int nr), .val (.int y2), .val (.int z2), .val (.int km), .val (.int a3), .val (.int b3), .val (.int c2), sl169_l15, .val (.ref b8), .val (.int (3 : Int32)), .val (.ref b67), .val (.ref b71), .val (.ref bm), .val (.int c2), .val (.int (1 : Int32)), .unset] [(.int (2147483647 : Int32)), (.int p4)]))
                    refine own_via (fun t k => XS.iand X82.here hx rfl (hb hby at_442) rfl k) ?_
                    show OwnEnds p.tables e below _ (T82.setTop (mkF m 443 #[.val (.int p0), .val (.int p1), .val (.int p2), .val (.int p3), .val (.int p4), .val (.long q5), .second, .val (.int x0), .val (.int nr), .val (.int y2), .val (.int z2), .val (.int km), .val (.int a3), .val (.int b3), .val (.int c2), sl169_l15, .val (.ref b8), .val (.int (3 : Int32)), .val (.ref b67), .val (.ref b71), .val (.ref bm), .val (.int c2), .val (.int (1 : Int32)), .unset] [(.int (p4 &&& (2147483647 : Int32)))]))
                    refine own_via (fun t k => XS.aload X82.here hx rfl (hb hby at_443) rfl rfl k) ?_
                    show OwnEnds p.tables e below _ (T82.setTop (mkF m 445 #[.val (.int p0), .val (.int p1), .val (.int p2), .val (.int p3), .val (.int p4), .val (.long q5), .second, .val (.int x0), .val (.int nr), .val (.int y2), .val (.int z2), .val (.int km), .val (.int a3), .val (.int b3), .val (.int c2), sl169_l15, .val (.ref b8), .val (.int (3 : Int32)), .val (.ref b67), .val (.ref b71), .val (.ref bm), .val (.int c2), .val (.int (1 : Int32)), .unset] [(.ref bm), (.int (p4 &&& (2147483647 : Int32)))]))
                    refine own_via (own_len X82 hx hZ e82 A_bm (z := ((c2 / (8 : Int32)) + (1 : Int32))) (by rw [own_bll]; exact (own_tl hr_c2).1) (g := (mkF m 445 #[.val (.int p0), .val (.int p1), .val (.int p2), .val (.int p3), .val (.int p4), .val (.long q5), .second, .val (.int x0), .val (.int nr), .val (.int y2), .val (.int z2), .val (.int km), .val (.int a3), .val (.int b3), .val (.int c2), sl169_l15, .val (.ref b8), .val (.int (3 : Int32)), .val (.ref b67), .val (.ref b71), .val (.ref bm), .val (.int c2), .val (.int (1 : Int32)), .unset] [(.ref bm), (.int (p4 &&& (2147483647 : Int32)))])) rfl rfl (hb hby at_445)) ?_
                    show OwnEnds p.tables e below _ (T82.setTop (mkF m 446 #[.val (.int p0), .val (.int p1), .val (.int p2), .val (.int p3), .val (.int p4), .val (.long q5), .second, .val (.int x0), .val (.int nr), .val (.int y2), .val (.int z2), .val (.int km), .val (.int a3), .val (.int b3), .val (.int c2), sl169_l15, .val (.ref b8), .val (.int (3 : Int32)), .val (.ref b67), .val (.ref b71), .val (.ref bm), .val (.int c2), .val (.int (1 : Int32)), .unset] [(.int ((c2 / (8 : Int32)) + (1 : Int32))), (.int (p4 &&& (2147483647 : Int32)))]))
                    refine own_via (fun t k => Jvm.RoadKit.iremM X82 hx rfl (hb hby at_446) rfl (own_nz hr_c2) k) ?_
                    show OwnEnds p.tables e below _ (T82.setTop (mkF m 447 #[.val (.int p0), .val (.int p1), .val (.int p2), .val (.int p3), .val (.int p4), .val (.long q5), .second, .val (.int x0), .val (.int nr), .val (.int y2), .val (.int z2), .val (.int km), .val (.int a3), .val (.int b3), .val (.int c2), sl169_l15, .val (.ref b8), .val (.int (3 : Int32)), .val (.ref b67), .val (.ref b71), .val (.ref bm), .val (.int c2), .val (.int (1 : Int32)), .unset] [(.int ((p4 &&& (2147483647 : Int32)) % ((c2 / (8 : Int32)) + (1 : Int32))))]))
                    obtain ⟨jj, h_jj⟩ : ∃ z, z = ((p4 &&& (2147483647 : Int32)) % ((c2 / (8 : Int32)) + (1 : Int32))) := ⟨_, rfl⟩
                    rw [← h_jj]
                    refine own_via (fun t k => XS.istore X82.here hx rfl (hb hby at_447) rfl (l' := #[.val (.int p0), .val (.int p1), .val (.int p2), .val (.int p3), .val (.int p4), .val (.long q5), .second, .val (.int x0), .val (.int nr), .val (.int y2), .val (.int z2), .val (.int km), .val (.int a3), .val (.int b3), .val (.int c2), sl169_l15, .val (.ref b8), .val (.int (3 : Int32)), .val (.ref b67), .val (.ref b71), .val (.ref bm), .val (.int c2), .val (.int (1 : Int32)), .val (.int jj)]) rfl k) ?_
                    show OwnEnds p.tables e below _ (T82.setTop (mkF m 449 #[.val (.int p0), .val (.int p1), .val (.int p2), .val (.int p3), .val (.int p4), .val (.long q5), .second, .val (.int x0), .val (.int nr), .val (.int y2), .val (.int z2), .val (.int km), .val (.int a3), .val (.int b3), .val (.int c2), sl169_l15, .val (.ref b8), .val (.int (3 : Int32)), .val (.ref b67), .val (.ref b71), .val (.ref bm), .val (.int c2), .val (.int (1 : Int32)), .val (.int jj)] []))
                    refine own_via (fun t k => XS.iload X82.here hx rfl (hb hby at_449) rfl k) ?_
                    show OwnEnds p.tables e below _ (T82.setTop (mkF m 451 #[.val (.int p0), .val (.int p1), .val (.int p2), .val (.int p3), .val (.int p4), .val (.long q5), .second, .val (.int x0), .val (.int nr), .val (.int y2), .val (.int z2), .val (.int km), .val (.int a3), .val (.int b3), .val (.int c2), sl169_l15, .val (.ref b8), .val (.int (3 : Int32)), .val (.ref b67), .val (.ref b71), .val (.ref bm), .val (.int c2), .val (.int (1 : Int32)), .val (.int jj)] [(.int (1 : Int32))]))
                    have hc451_84 : ¬ ((1 : Int32) = (0 : Int32)) := by decide
                    refine own_via (fun t k => XS.ifNo X82.here hx rfl (hb hby at_451) rfl ((if0 _ _).trans (feq hc451_84).1) k) ?_
                    show OwnEnds p.tables e below _ (T82.setTop (mkF m 454 #[.val (.int p0), .val (.int p1), .val (.int p2), .val (.int p3), .val (.int p4), .val (.long q5), .second, .val (.int x0), .val (.int nr), .val (.int y2), .val (.int z2), .val (.int km), .val (.int a3), .val (.int b3), .val (.int c2), sl169_l15, .val (.ref b8), .val (.int (3 : Int32)), .val (.ref b67), .val (.ref b71), .val (.ref bm), .val (.int c2), .val (.int (1 : Int32)), .val (.int jj)] []))
                    refine own_via (fun t k => XS.aload X82.here hx rfl (hb hby at_454) rfl rfl k) ?_
                    show OwnEnds p.tables e below _ (T82.setTop (mkF m 456 #[.val (.int p0), .val (.int p1), .val (.int p2), .val (.int p3), .val (.int p4), .val (.long q5), .second, .val (.int x0), .val (.int nr), .val (.int y2), .val (.int z2), .val (.int km), .val (.int a3), .val (.int b3), .val (.int c2), sl169_l15, .val (.ref b8), .val (.int (3 : Int32)), .val (.ref b67), .val (.ref b71), .val (.ref bm), .val (.int c2), .val (.int (1 : Int32)), .val (.int jj)] [(.ref bm)]))
                    refine own_via (fun t k => XS.aload X82.here hx rfl (hb hby at_456) rfl rfl k) ?_
                    show OwnEnds p.tables e below _ (T82.setTop (mkF m 458 #[.val (.int p0), .val (.int p1), .val (.int p2), .val (.int p3), .val (.int p4), .val (.long q5), .second, .val (.int x0), .val (.int nr), .val (.int y2), .val (.int z2), .val (.int km), .val (.int a3), .val (.int b3), .val (.int c2), sl169_l15, .val (.ref b8), .val (.int (3 : Int32)), .val (.ref b67), .val (.ref b71), .val (.ref bm), .val (.int c2), .val (.int (1 : Int32)), .val (.int jj)] [(.ref b8), (.ref bm)]))
                    refine own_via (fun t k => XS.iload X82.here hx rfl (hb hby at_458) rfl k) ?_
                    show OwnEnds p.tables e below _ (T82.setTop (mkF m 460 #[.val (.int p0), .val (.int p1), .val (.int p2), .val (.int p3), .val (.int p4), .val (.long q5), .second, .val (.int x0), .val (.int nr), .val (.int y2), .val (.int z2), .val (.int km), .val (.int a3), .val (.int b3), .val (.int c2), sl169_l15, .val (.ref b8), .val (.int (3 : Int32)), .val (.ref b67), .val (.ref b71), .val (.ref bm), .val (.int c2), .val (.int (1 : Int32)), .val (.int jj)] [(.int (3 : Int32)), (.ref b8), (.ref bm)]))
                    refine own_via (fun t k => XS.iload X82.here hx rfl (hb hby at_460) rfl k) ?_
                    show OwnEnds p.tables e below _ (T82.setTop (mkF m 462 #[.val (.int p0), .val (.int p1), .val (.int p2), .val (.int p3), .val (.int p4), .val (.long q5), .second, .val (.int x0), .val (.int nr), .val (.int y2), .val (.int z2), .val (.int km), .val (.int a3), .val (.int b3), .val (.int c2), sl169_l15, .val (.ref b8), .val (.int (3 : Int32)), .val (.ref b67), .val (.ref b71), .val (.ref bm), .val (.int c2), .val (.int (1 : Int32)), .val (.int jj)] [(.int jj), (.int (3 : Int32)), (.ref b8), (.ref bm)]))
                    obtain ⟨_, _, ⟨T85, L85, k85, n85⟩, -, X85, ⟨Lc85, hQ85, l85, y85, z85⟩, st85⟩ := Jvm.LawKit.callS X82 hx (y := (⟨"com/example/crowd_cache/crowdcache/core/BucketToBitmapPinLaw", "checkAt", "([B[III)Z"⟩ : MethodName)) hown (mvT hZ (hw _ (List.mem_of_getElem? (i := 22) rfl))) (mvT hZ (hw _ (List.mem_of_getElem? (i := 23) rfl))) (mvT hZ (hw _ (List.mem_of_getElem? (i := 24) rfl))) (mvT hZ (hw _ (List.mem_of_getElem? (i := 25) rfl))) (by decide) (backOf (W := 0) (rm43 l Z aw hw [] bm b8 jj a3 b3 c2 ((c2 / 8).toNatClampNeg + 1) (jj).toNatClampNeg h73 n0 Zs_73 A_bm A_b8 (own_jj hr_c2 h_jj).1 (own_jj hr_c2 h_jj).2 hr_a3 hr_b3 hr_c2) hZ (hw _ (List.mem_of_getElem? (i := 25) rfl)) (hw _ (List.mem_of_getElem? (i := 24) rfl)) (by decide) (by decide)) (g := (mkF m 462 #[.val (.int p0), .val (.int p1), .val (.int p2), .val (.int p3), .val (.int p4), .val (.long q5), .second, .val (.int x0), .val (.int nr), .val (.int y2), .val (.int z2), .val (.int km), .val (.int a3), .val (.int b3), .val (.int c2), sl169_l15, .val (.ref b8), .val (.int (3 : Int32)), .val (.ref b67), .val (.ref b71), .val (.ref bm), .val (.int c2), .val (.int (1 : Int32)), .val (.int jj)] [(.int jj), (.int (3 : Int32)), (.ref b8), (.ref bm)])) rfl (by rw [hml]; rfl) (argsL := [(.ref bm), (.ref b8), (.int (3 : Int32)), (.int jj)]) (rest := []) (lenOf pd_4 rfl) rfl (by show 2 * 0 + _ ≤ _; exact Nat.le_of_eq rfl) (hb hby at_462) (fun _ _ => ⟨rfl, e82, (by decide : 4 + 0 ≤ _), (by decide : 8200 + 0 ≤ _)⟩)
                    dsimp only [Pt.U, Pt.locs, Pt.cells, Pt.slots] at X85 l85 y85 z85 st85 hQ85
                    subst l85 y85 z85
                    obtain ⟨rfl, Nq85, e85⟩ := hQ85
                    have N85 := Fr.app N82 Nq85
                    replace e85 : T85.heap = h73 := e85
                    refine own_via st85 ?_
                    show OwnEnds p.tables e below _ (T85.setTop (mkF m 465 #[.val (.int p0), .val (.int p1), .val (.int p2), .val (.int p3), .val (.int p4), .val (.long q5), .second, .val (.int x0), .val (.int nr), .val (.int y2), .val (.int z2), .val (.int km), .val (.int a3), .val (.int b3), .val (.int c2), sl169_l15, .val (.ref b8), .val (.int (3 : Int32)), .val (.ref b67), .val (.ref b71), .val (.ref bm), .val (.int c2), .val (.int (1 : Int32)), .val (.int jj)] [(.int (1 : Int32))]))
                    have hc465_86 : ¬ ((1 : Int32) = (0 : Int32)) := by decide
                    refine own_via (fun t k => XS.ifNo X85.here hx rfl (hb hby at_465) rfl ((if0 _ _).trans (feq hc465_86).1) k) ?_
                    show OwnEnds p.tables e below _ (T85.setTop (mkF m 468 #[.val (.int p0), .val (.int p1), .val (.int p2), .val (.int p3), .val (.int p4), .val (.long q5), .second, .val (.int x0), .val (.int nr), .val (.int y2), .val (.int z2), .val (.int km), .val (.int a3), .val (.int b3), .val (.int c2), sl169_l15, .val (.ref b8), .val (.int (3 : Int32)), .val (.ref b67), .val (.ref b71), .val (.ref bm), .val (.int c2), .val (.int (1 : Int32)), .val (.int jj)] []))
                    refine own_via (fun t k => XS.iconst X85.here hx rfl (hb hby at_468) k) ?_
                    show OwnEnds p.tables e below _ (T85.setTop (mkF m 469 #[.val (.int p0), .val (.int p1), .val (.int p2), .val (.int p3), .val (.int p4), .val (.long q5), .second, .val (.int x0), .val (.int nr), .val (.int y2), .val (.int z2), .val (.int km), .val (.int a3), .val (.int b3), .val (.int c2), sl169_l15, .val (.ref b8), .val (.int (3 : Int32)), .val (.ref b67), .val (.ref b71), .val (.ref bm), .val (.int c2), .val (.int (1 : Int32)), .val (.int jj)] [(.int (1 : Int32))]))
                    refine own_via (fun t k => XS.goto X85.here hx rfl (pc0 := 469) (pc' := 473) rfl (hb hby at_469) (by decide) (by decide) k) ?_
                    show OwnEnds p.tables e below _ (T85.setTop (mkF m 473 #[.val (.int p0), .val (.int p1), .val (.int p2), .val (.int p3), .val (.int p4), .val (.long q5), .second, .val (.int x0), .val (.int nr), .val (.int y2), .val (.int z2), .val (.int km), .val (.int a3), .val (.int b3), .val (.int c2), sl169_l15, .val (.ref b8), .val (.int (3 : Int32)), .val (.ref b67), .val (.ref b71), .val (.ref bm), .val (.int c2), .val (.int (1 : Int32)), .val (.int jj)] [(.int (1 : Int32))]))
                    refine own_via (fun t k => XS.istore X85.here hx rfl (hb hby at_473) rfl (l' := #[.val (.int p0), .val (.int p1), .val (.int p2), .val (.int p3), .val (.int p4), .val (.long q5), .second, .val (.int x0), .val (.int nr), .val (.int y2), .val (.int z2), .val (.int km), .val (.int a3), .val (.int b3), .val (.int c2), sl169_l15, .val (.ref b8), .val (.int (3 : Int32)), .val (.ref b67), .val (.ref b71), .val (.ref bm), .val (.int c2), .val (.int (1 : Int32)), .val (.int jj)]) rfl k) ?_
                    show OwnEnds p.tables e below _ (T85.setTop (mkF m 475 #[.val (.int p0), .val (.int p1), .val (.int p2), .val (.int p3), .val (.int p4), .val (.long q5), .second, .val (.int x0), .val (.int nr), .val (.int y2), .val (.int z2), .val (.int km), .val (.int a3), .val (.int b3), .val (.int c2), sl169_l15, .val (.ref b8), .val (.int (3 : Int32)), .val (.ref b67), .val (.ref b71), .val (.ref bm), .val (.int c2), .val (.int (1 : Int32)), .val (.int jj)] []))
                    refine own_via (fun t k => XS.iload X85.here hx rfl (hb hby at_475) rfl k) ?_
                    show OwnEnds p.tables e below _ (T85.setTop (mkF m 477 #[.val (.int p0), .val (.int p1), .val (.int p2), .val (.int p3), .val (.int p4), .val (.long q5), .second, .val (.int x0), .val (.int nr), .val (.int y2), .val (.int z2), .val (.int km), .val (.int a3), .val (.int b3), .val (.int c2), sl169_l15, .val (.ref b8), .val (.int (3 : Int32)), .val (.ref b67), .val (.ref b71), .val (.ref bm), .val (.int c2), .val (.int (1 : Int32)), .val (.int jj)] [(.int (1 : Int32))]))
                    refine own_retN (t := .boolean) X85 hx Bd.returns (by simp) hlk (hb hby at_477) ?_ (by decide) (by decide)
                    rw [e85]
                    exact ⟨rfl, N85⟩
              by_cases hc154_87 : b2 < a1
              · skip
                refine own_via (fun t k => XS.icmpNo X0.here hx rfl (hb hby at_154) rfl (tlt hc154_87).2.2.2 k) ?_
                show OwnEnds p.tables e below _ (s₁.setTop (mkF m 157 #[.val (.int p0), .val (.int p1), .val (.int p2), .val (.int p3), .val (.int p4), .val (.long q5), .second, .val (.int x0), .val (.int nr), .val (.int y2), .val (.int z2), .val (.int km), .val (.int a1), .val (.int b2), .val (.int c2), sl150_l15, .unset, .unset, .unset, .unset, .unset, .unset, .unset, .unset] []))
                refine own_via (fun t k => XS.iload X0.here hx rfl (hb hby at_157) rfl k) ?_
                show OwnEnds p.tables e below _ (s₁.setTop (mkF m 159 #[.val (.int p0), .val (.int p1), .val (.int p2), .val (.int p3), .val (.int p4), .val (.long q5), .second, .val (.int x0), .val (.int nr), .val (.int y2), .val (.int z2), .val (.int km), .val (.int a1), .val (.int b2), .val (.int c2), sl150_l15, .unset, .unset, .unset, .unset, .unset, .unset, .unset, .unset] [(.int a1)]))
                refine own_via (fun t k => XS.istore X0.here hx rfl (hb hby at_159) rfl (l' := #[.val (.int p0), .val (.int p1), .val (.int p2), .val (.int p3), .val (.int p4), .val (.long q5), .second, .val (.int x0), .val (.int nr), .val (.int y2), .val (.int z2), .val (.int km), .val (.int a1), .val (.int b2), .val (.int c2), .val (.int a1), .unset, .unset, .unset, .unset, .unset, .unset, .unset, .unset]) (XS.store1 rfl one_sl150_l15 rfl) k) ?_
                show OwnEnds p.tables e below _ (s₁.setTop (mkF m 161 #[.val (.int p0), .val (.int p1), .val (.int p2), .val (.int p3), .val (.int p4), .val (.long q5), .second, .val (.int x0), .val (.int nr), .val (.int y2), .val (.int z2), .val (.int km), .val (.int a1), .val (.int b2), .val (.int c2), .val (.int a1), .unset, .unset, .unset, .unset, .unset, .unset, .unset, .unset] []))
                refine own_via (fun t k => XS.iload X0.here hx rfl (hb hby at_161) rfl k) ?_
                show OwnEnds p.tables e below _ (s₁.setTop (mkF m 163 #[.val (.int p0), .val (.int p1), .val (.int p2), .val (.int p3), .val (.int p4), .val (.long q5), .second, .val (.int x0), .val (.int nr), .val (.int y2), .val (.int z2), .val (.int km), .val (.int a1), .val (.int b2), .val (.int c2), .val (.int a1), .unset, .unset, .unset, .unset, .unset, .unset, .unset, .unset] [(.int b2)]))
                refine own_via (fun t k => XS.istore X0.here hx rfl (hb hby at_163) rfl (l' := #[.val (.int p0), .val (.int p1), .val (.int p2), .val (.int p3), .val (.int p4), .val (.long q5), .second, .val (.int x0), .val (.int nr), .val (.int y2), .val (.int z2), .val (.int km), .val (.int b2), .val (.int b2), .val (.int c2), .val (.int a1), .unset, .unset, .unset, .unset, .unset, .unset, .unset, .unset]) rfl k) ?_
                show OwnEnds p.tables e below _ (s₁.setTop (mkF m 165 #[.val (.int p0), .val (.int p1), .val (.int p2), .val (.int p3), .val (.int p4), .val (.long q5), .second, .val (.int x0), .val (.int nr), .val (.int y2), .val (.int z2), .val (.int km), .val (.int b2), .val (.int b2), .val (.int c2), .val (.int a1), .unset, .unset, .unset, .unset, .unset, .unset, .unset, .unset] []))
                refine own_via (fun t k => XS.iload X0.here hx rfl (hb hby at_165) rfl k) ?_
                show OwnEnds p.tables e below _ (s₁.setTop (mkF m 167 #[.val (.int p0), .val (.int p1), .val (.int p2), .val (.int p3), .val (.int p4), .val (.long q5), .second, .val (.int x0), .val (.int nr), .val (.int y2), .val (.int z2), .val (.int km), .val (.int b2), .val (.int b2), .val (.int c2), .val (.int a1), .unset, .unset, .unset, .unset, .unset, .unset, .unset, .unset] [(.int a1)]))
                refine own_via (fun t k => XS.istore X0.here hx rfl (hb hby at_167) rfl (l' := #[.val (.int p0), .val (.int p1), .val (.int p2), .val (.int p3), .val (.int p4), .val (.long q5), .second, .val (.int x0), .val (.int nr), .val (.int y2), .val (.int z2), .val (.int km), .val (.int b2), .val (.int a1), .val (.int c2), .val (.int a1), .unset, .unset, .unset, .unset, .unset, .unset, .unset, .unset]) rfl k) ?_
                show OwnEnds p.tables e below _ (s₁.setTop (mkF m 169 #[.val (.int p0), .val (.int p1), .val (.int p2), .val (.int p3), .val (.int p4), .val (.long q5), .second, .val (.int x0), .val (.int nr), .val (.int y2), .val (.int z2), .val (.int km), .val (.int b2), .val (.int a1), .val (.int c2), .val (.int a1), .unset, .unset, .unset, .unset, .unset, .unset, .unset, .unset] []))
                exact J169_7 _ _ _ (Or.inr ⟨_, rfl, rfl⟩) (by simp only [if_pos hc154_87]) (by simp only [if_pos hc154_87])
              · skip
                refine own_via (fun t k => XS.icmpYes X0.here hx rfl (pc0 := 154) (pc' := 169) rfl (hb hby at_154) rfl (flt hc154_87).2.2.2 (by decide) (by decide) k) ?_
                show OwnEnds p.tables e below _ (s₁.setTop (mkF m 169 #[.val (.int p0), .val (.int p1), .val (.int p2), .val (.int p3), .val (.int p4), .val (.long q5), .second, .val (.int x0), .val (.int nr), .val (.int y2), .val (.int z2), .val (.int km), .val (.int a1), .val (.int b2), .val (.int c2), sl150_l15, .unset, .unset, .unset, .unset, .unset, .unset, .unset, .unset] []))
                exact J169_7 _ _ _ one_sl150_l15 (by simp only [if_neg hc154_87]) (by simp only [if_neg hc154_87])
            by_cases hc135_88 : z2 < b1
            · skip
              refine own_via (fun t k => XS.icmpNo X0.here hx rfl (hb hby at_135) rfl (tlt hc135_88).2.2.2 k) ?_
              show OwnEnds p.tables e below _ (s₁.setTop (mkF m 138 #[.val (.int p0), .val (.int p1), .val (.int p2), .val (.int p3), .val (.int p4), .val (.long q5), .second, .val (.int x0), .val (.int nr), .val (.int y2), .val (.int z2), .val (.int km), .val (.int a1), .val (.int b1), .val (.int z2), sl131_l15, .unset, .unset, .unset, .unset, .unset, .unset, .unset, .unset] []))
              refine own_via (fun t k => XS.iload X0.here hx rfl (hb hby at_138) rfl k) ?_
              show OwnEnds p.tables e below _ (s₁.setTop (mkF m 140 #[.val (.int p0), .val (.int p1), .val (.int p2), .val (.int p3), .val (.int p4), .val (.long q5), .second, .val (.int x0), .val (.int nr), .val (.int y2), .val (.int z2), .val (.int km), .val (.int a1), .val (.int b1), .val (.int z2), sl131_l15, .unset, .unset, .unset, .unset, .unset, .unset, .unset, .unset] [(.int b1)]))
              refine own_via (fun t k => XS.istore X0.here hx rfl (hb hby at_140) rfl (l' := #[.val (.int p0), .val (.int p1), .val (.int p2), .val (.int p3), .val (.int p4), .val (.long q5), .second, .val (.int x0), .val (.int nr), .val (.int y2), .val (.int z2), .val (.int km), .val (.int a1), .val (.int b1), .val (.int z2), .val (.int b1), .unset, .unset, .unset, .unset, .unset, .unset, .unset, .unset]) (XS.store1 rfl one_sl131_l15 rfl) k) ?_
              show OwnEnds p.tables e below _ (s₁.setTop (mkF m 142 #[.val (.int p0), .val (.int p1), .val (.int p2), .val (.int p3), .val (.int p4), .val (.long q5), .second, .val (.int x0), .val (.int nr), .val (.int y2), .val (.int z2), .val (.int km), .val (.int a1), .val (.int b1), .val (.int z2), .val (.int b1), .unset, .unset, .unset, .unset, .unset, .unset, .unset, .unset] []))
              refine own_via (fun t k => XS.iload X0.here hx rfl (hb hby at_142) rfl k) ?_
              show OwnEnds p.tables e below _ (s₁.setTop (mkF m 144 #[.val (.int p0), .val (.int p1), .val (.int p2), .val (.int p3), .val (.int p4), .val (.long q5), .second, .val (.int x0), .val (.int nr), .val (.int y2), .val (.int z2), .val (.int km), .val (.int a1), .val (.int b1), .val (.int z2), .val (.int b1), .unset, .unset, .unset, .unset, .unset, .unset, .unset, .unset] [(.int z2)]))
              refine own_via (fun t k => XS.istore X0.here hx rfl (hb hby at_144) rfl (l' := #[.val (.int p0), .val (.int p1), .val (.int p2), .val (.int p3), .val (.int p4), .val (.long q5), .second, .val (.int x0), .val (.int nr), .val (.int y2), .val (.int z2), .val (.int km), .val (.int a1), .val (.int z2), .val (.int z2), .val (.int b1), .unset, .unset, .unset, .unset, .unset, .unset, .unset, .unset]) rfl k) ?_
              show OwnEnds p.tables e below _ (s₁.setTop (mkF m 146 #[.val (.int p0), .val (.int p1), .val (.int p2), .val (.int p3), .val (.int p4), .val (.long q5), .second, .val (.int x0), .val (.int nr), .val (.int y2), .val (.int z2), .val (.int km), .val (.int a1), .val (.int z2), .val (.int z2), .val (.int b1), .unset, .unset, .unset, .unset, .unset, .unset, .unset, .unset] []))
              refine own_via (fun t k => XS.iload X0.here hx rfl (hb hby at_146) rfl k) ?_
              show OwnEnds p.tables e below _ (s₁.setTop (mkF m 148 #[.val (.int p0), .val (.int p1), .val (.int p2), .val (.int p3), .val (.int p4), .val (.long q5), .second, .val (.int x0), .val (.int nr), .val (.int y2), .val (.int z2), .val (.int km), .val (.int a1), .val (.int z2), .val (.int z2), .val (.int b1), .unset, .unset, .unset, .unset, .unset, .unset, .unset, .unset] [(.int b1)]))
              refine own_via (fun t k => XS.istore X0.here hx rfl (hb hby at_148) rfl (l' := #[.val (.int p0), .val (.int p1), .val (.int p2), .val (.int p3), .val (.int p4), .val (.long q5), .second, .val (.int x0), .val (.int nr), .val (.int y2), .val (.int z2), .val (.int km), .val (.int a1), .val (.int z2), .val (.int b1), .val (.int b1), .unset, .unset, .unset, .unset, .unset, .unset, .unset, .unset]) rfl k) ?_
              show OwnEnds p.tables e below _ (s₁.setTop (mkF m 150 #[.val (.int p0), .val (.int p1), .val (.int p2), .val (.int p3), .val (.int p4), .val (.long q5), .second, .val (.int x0), .val (.int nr), .val (.int y2), .val (.int z2), .val (.int km), .val (.int a1), .val (.int z2), .val (.int b1), .val (.int b1), .unset, .unset, .unset, .unset, .unset, .unset, .unset, .unset] []))
              exact J150_6 _ _ _ (Or.inr ⟨_, rfl, rfl⟩) (by simp only [if_pos hc135_88]) (by simp only [if_pos hc135_88])
            · skip
              refine own_via (fun t k => XS.icmpYes X0.here hx rfl (pc0 := 135) (pc' := 150) rfl (hb hby at_135) rfl (flt hc135_88).2.2.2 (by decide) (by decide) k) ?_
              show OwnEnds p.tables e below _ (s₁.setTop (mkF m 150 #[.val (.int p0), .val (.int p1), .val (.int p2), .val (.int p3), .val (.int p4), .val (.long q5), .second, .val (.int x0), .val (.int nr), .val (.int y2), .val (.int z2), .val (.int km), .val (.int a1), .val (.int b1), .val (.int z2), sl131_l15, .unset, .unset, .unset, .unset, .unset, .unset, .unset, .unset] []))
              exact J150_6 _ _ _ one_sl131_l15 (by simp only [if_neg hc135_88]) (by simp only [if_neg hc135_88])
          by_cases hc116_89 : y2 < x0
          · skip
            refine own_via (fun t k => XS.icmpNo X0.here hx rfl (hb hby at_116) rfl (tlt hc116_89).2.2.2 k) ?_
            show OwnEnds p.tables e below _ (s₁.setTop (mkF m 119 #[.val (.int p0), .val (.int p1), .val (.int p2), .val (.int p3), .val (.int p4), .val (.long q5), .second, .val (.int x0), .val (.int nr), .val (.int y2), .val (.int z2), .val (.int km), .val (.int x0), .val (.int y2), .val (.int z2), .unset, .unset, .unset, .unset, .unset, .unset, .unset, .unset, .unset] []))
            refine own_via (fun t k => XS.iload X0.here hx rfl (hb hby at_119) rfl k) ?_
            show OwnEnds p.tables e below _ (s₁.setTop (mkF m 121 #[.val (.int p0), .val (.int p1), .val (.int p2), .val (.int p3), .val (.int p4), .val (.long q5), .second, .val (.int x0), .val (.int nr), .val (.int y2), .val (.int z2), .val (.int km), .val (.int x0), .val (.int y2), .val (.int z2), .unset, .unset, .unset, .unset, .unset, .unset, .unset, .unset, .unset] [(.int x0)]))
            refine own_via (fun t k => XS.istore X0.here hx rfl (hb hby at_121) rfl (l' := #[.val (.int p0), .val (.int p1), .val (.int p2), .val (.int p3), .val (.int p4), .val (.long q5), .second, .val (.int x0), .val (.int nr), .val (.int y2), .val (.int z2), .val (.int km), .val (.int x0), .val (.int y2), .val (.int z2), .val (.int x0), .unset, .unset, .unset, .unset, .unset, .unset, .unset, .unset]) rfl k) ?_
            show OwnEnds p.tables e below _ (s₁.setTop (mkF m 123 #[.val (.int p0), .val (.int p1), .val (.int p2), .val (.int p3), .val (.int p4), .val (.long q5), .second, .val (.int x0), .val (.int nr), .val (.int y2), .val (.int z2), .val (.int km), .val (.int x0), .val (.int y2), .val (.int z2), .val (.int x0), .unset, .unset, .unset, .unset, .unset, .unset, .unset, .unset] []))
            refine own_via (fun t k => XS.iload X0.here hx rfl (hb hby at_123) rfl k) ?_
            show OwnEnds p.tables e below _ (s₁.setTop (mkF m 125 #[.val (.int p0), .val (.int p1), .val (.int p2), .val (.int p3), .val (.int p4), .val (.long q5), .second, .val (.int x0), .val (.int nr), .val (.int y2), .val (.int z2), .val (.int km), .val (.int x0), .val (.int y2), .val (.int z2), .val (.int x0), .unset, .unset, .unset, .unset, .unset, .unset, .unset, .unset] [(.int y2)]))
            refine own_via (fun t k => XS.istore X0.here hx rfl (hb hby at_125) rfl (l' := #[.val (.int p0), .val (.int p1), .val (.int p2), .val (.int p3), .val (.int p4), .val (.long q5), .second, .val (.int x0), .val (.int nr), .val (.int y2), .val (.int z2), .val (.int km), .val (.int y2), .val (.int y2), .val (.int z2), .val (.int x0), .unset, .unset, .unset, .unset, .unset, .unset, .unset, .unset]) rfl k) ?_
            show OwnEnds p.tables e below _ (s₁.setTop (mkF m 127 #[.val (.int p0), .val (.int p1), .val (.int p2), .val (.int p3), .val (.int p4), .val (.long q5), .second, .val (.int x0), .val (.int nr), .val (.int y2), .val (.int z2), .val (.int km), .val (.int y2), .val (.int y2), .val (.int z2), .val (.int x0), .unset, .unset, .unset, .unset, .unset, .unset, .unset, .unset] []))
            refine own_via (fun t k => XS.iload X0.here hx rfl (hb hby at_127) rfl k) ?_
            show OwnEnds p.tables e below _ (s₁.setTop (mkF m 129 #[.val (.int p0), .val (.int p1), .val (.int p2), .val (.int p3), .val (.int p4), .val (.long q5), .second, .val (.int x0), .val (.int nr), .val (.int y2), .val (.int z2), .val (.int km), .val (.int y2), .val (.int y2), .val (.int z2), .val (.int x0), .unset, .unset, .unset, .unset, .unset, .unset, .unset, .unset] [(.int x0)]))
            refine own_via (fun t k => XS.istore X0.here hx rfl (hb hby at_129) rfl (l' := #[.val (.int p0), .val (.int p1), .val (.int p2), .val (.int p3), .val (.int p4), .val (.long q5), .second, .val (.int x0), .val (.int nr), .val (.int y2), .val (.int z2), .val (.int km), .val (.int y2), .val (.int x0), .val (.int z2), .val (.int x0), .unset, .unset, .unset, .unset, .unset, .unset, .unset, .unset]) rfl k) ?_
            show OwnEnds p.tables e below _ (s₁.setTop (mkF m 131 #[.val (.int p0), .val (.int p1), .val (.int p2), .val (.int p3), .val (.int p4), .val (.long q5), .second, .val (.int x0), .val (.int nr), .val (.int y2), .val (.int z2), .val (.int km), .val (.int y2), .val (.int x0), .val (.int z2), .val (.int x0), .unset, .unset, .unset, .unset, .unset, .unset, .unset, .unset] []))
            exact J131_5 _ _ _ (Or.inr ⟨_, rfl, rfl⟩) (by simp only [if_pos hc116_89]) (by simp only [if_pos hc116_89])
          · skip
            refine own_via (fun t k => XS.icmpYes X0.here hx rfl (pc0 := 116) (pc' := 131) rfl (hb hby at_116) rfl (flt hc116_89).2.2.2 (by decide) (by decide) k) ?_
            show OwnEnds p.tables e below _ (s₁.setTop (mkF m 131 #[.val (.int p0), .val (.int p1), .val (.int p2), .val (.int p3), .val (.int p4), .val (.long q5), .second, .val (.int x0), .val (.int nr), .val (.int y2), .val (.int z2), .val (.int km), .val (.int x0), .val (.int y2), .val (.int z2), .unset, .unset, .unset, .unset, .unset, .unset, .unset, .unset, .unset] []))
            exact J131_5 _ _ _ (Or.inl rfl) (by simp only [if_neg hc116_89]) (by simp only [if_neg hc116_89])
        by_cases hc76_90 : km = (0 : Int32)
        · skip
          refine own_via (fun t k => XS.ifNo X0.here hx rfl (hb hby at_76) rfl ((if0 _ _).trans (teq hc76_90).2) k) ?_
          show OwnEnds p.tables e below _ (s₁.setTop (mkF m 79 #[.val (.int p0), .val (.int p1), .val (.int p2), .val (.int p3), .val (.int p4), .val (.long q5), .second, .val (.int x0), .val (.int nr), .val (.int y1), .val (.int z1), .val (.int km), .unset, .unset, .unset, .unset, .unset, .unset, .unset, .unset, .unset, .unset, .unset, .unset] []))
          refine own_via (fun t k => XS.iload X0.here hx rfl (hb hby at_79) rfl k) ?_
          show OwnEnds p.tables e below _ (s₁.setTop (mkF m 81 #[.val (.int p0), .val (.int p1), .val (.int p2), .val (.int p3), .val (.int p4), .val (.long q5), .second, .val (.int x0), .val (.int nr), .val (.int y1), .val (.int z1), .val (.int km), .unset, .unset, .unset, .unset, .unset, .unset, .unset, .unset, .unset, .unset, .unset, .unset] [(.int x0)]))
          refine own_via (fun t k => XS.istore X0.here hx rfl (hb hby at_81) rfl (l' := #[.val (.int p0), .val (.int p1), .val (.int p2), .val (.int p3), .val (.int p4), .val (.long q5), .second, .val (.int x0), .val (.int nr), .val (.int x0), .val (.int z1), .val (.int km), .unset, .unset, .unset, .unset, .unset, .unset, .unset, .unset, .unset, .unset, .unset, .unset]) rfl k) ?_
          show OwnEnds p.tables e below _ (s₁.setTop (mkF m 83 #[.val (.int p0), .val (.int p1), .val (.int p2), .val (.int p3), .val (.int p4), .val (.long q5), .second, .val (.int x0), .val (.int nr), .val (.int x0), .val (.int z1), .val (.int km), .unset, .unset, .unset, .unset, .unset, .unset, .unset, .unset, .unset, .unset, .unset, .unset] []))
          refine own_via (fun t k => XS.iload X0.here hx rfl (hb hby at_83) rfl k) ?_
          show OwnEnds p.tables e below _ (s₁.setTop (mkF m 85 #[.val (.int p0), .val (.int p1), .val (.int p2), .val (.int p3), .val (.int p4), .val (.long q5), .second, .val (.int x0), .val (.int nr), .val (.int x0), .val (.int z1), .val (.int km), .unset, .unset, .unset, .unset, .unset, .unset, .unset, .unset, .unset, .unset, .unset, .unset] [(.int x0)]))
          refine own_via (fun t k => XS.istore X0.here hx rfl (hb hby at_85) rfl (l' := #[.val (.int p0), .val (.int p1), .val (.int p2), .val (.int p3), .val (.int p4), .val (.long q5), .second, .val (.int x0), .val (.int nr), .val (.int x0), .val (.int x0), .val (.int km), .unset, .unset, .unset, .unset, .unset, .unset, .unset, .unset, .unset, .unset, .unset, .unset]) rfl k) ?_
          show OwnEnds p.tables e below _ (s₁.setTop (mkF m 87 #[.val (.int p0), .val (.int p1), .val (.int p2), .val (.int p3), .val (.int p4), .val (.long q5), .second, .val (.int x0), .val (.int nr), .val (.int x0), .val (.int x0), .val (.int km), .unset, .unset, .unset, .unset, .unset, .unset, .unset, .unset, .unset, .unset, .unset, .unset] []))
          refine own_via (fun t k => XS.goto X0.here hx rfl (pc0 := 87) (pc' := 100) rfl (hb hby at_87) (by decide) (by decide) k) ?_
          show OwnEnds p.tables e below _ (s₁.setTop (mkF m 100 #[.val (.int p0), .val (.int p1), .val (.int p2), .val (.int p3), .val (.int p4), .val (.long q5), .second, .val (.int x0), .val (.int nr), .val (.int x0), .val (.int x0), .val (.int km), .unset, .unset, .unset, .unset, .unset, .unset, .unset, .unset, .unset, .unset, .unset, .unset] []))
          exact J100_4 _ _ (by simp only [if_pos hc76_90]) (by simp only [if_pos hc76_90])
        · skip
          refine own_via (fun t k => XS.ifYes X0.here hx rfl (pc0 := 76) (pc' := 90) rfl (hb hby at_76) rfl ((if0 _ _).trans (feq hc76_90).2) (by decide) (by decide) k) ?_
          show OwnEnds p.tables e below _ (s₁.setTop (mkF m 90 #[.val (.int p0), .val (.int p1), .val (.int p2), .val (.int p3), .val (.int p4), .val (.long q5), .second, .val (.int x0), .val (.int nr), .val (.int y1), .val (.int z1), .val (.int km), .unset, .unset, .unset, .unset, .unset, .unset, .unset, .unset, .unset, .unset, .unset, .unset] []))
          refine own_via (fun t k => XS.iload X0.here hx rfl (hb hby at_90) rfl k) ?_
          show OwnEnds p.tables e below _ (s₁.setTop (mkF m 92 #[.val (.int p0), .val (.int p1), .val (.int p2), .val (.int p3), .val (.int p4), .val (.long q5), .second, .val (.int x0), .val (.int nr), .val (.int y1), .val (.int z1), .val (.int km), .unset, .unset, .unset, .unset, .unset, .unset, .unset, .unset, .unset, .unset, .unset, .unset] [(.int km)]))
          refine own_via (fun t k => XS.iconst X0.here hx rfl (hb hby at_92) k) ?_
          show OwnEnds p.tables e below _ (s₁.setTop (mkF m 93 #[.val (.int p0), .val (.int p1), .val (.int p2), .val (.int p3), .val (.int p4), .val (.long q5), .second, .val (.int x0), .val (.int nr), .val (.int y1), .val (.int z1), .val (.int km), .unset, .unset, .unset, .unset, .unset, .unset, .unset, .unset, .unset, .unset, .unset, .unset] [(.int (1 : Int32)), (.int km)]))
          by_cases hc93_91 : km = (1 : Int32)
          · skip
            refine own_via (fun t k => XS.icmpNo X0.here hx rfl (hb hby at_93) rfl (teq hc93_91).2 k) ?_
            show OwnEnds p.tables e below _ (s₁.setTop (mkF m 96 #[.val (.int p0), .val (.int p1), .val (.int p2), .val (.int p3), .val (.int p4), .val (.long q5), .second, .val (.int x0), .val (.int nr), .val (.int y1), .val (.int z1), .val (.int km), .unset, .unset, .unset, .unset, .unset, .unset, .unset, .unset, .unset, .unset, .unset, .unset] []))
            refine own_via (fun t k => XS.iload X0.here hx rfl (hb hby at_96) rfl k) ?_
            show OwnEnds p.tables e below _ (s₁.setTop (mkF m 98 #[.val (.int p0), .val (.int p1), .val (.int p2), .val (.int p3), .val (.int p4), .val (.long q5), .second, .val (.int x0), .val (.int nr), .val (.int y1), .val (.int z1), .val (.int km), .unset, .unset, .unset, .unset, .unset, .unset, .unset, .unset, .unset, .unset, .unset, .unset] [(.int x0)]))
            refine own_via (fun t k => XS.istore X0.here hx rfl (hb hby at_98) rfl (l' := #[.val (.int p0), .val (.int p1), .val (.int p2), .val (.int p3), .val (.int p4), .val (.long q5), .second, .val (.int x0), .val (.int nr), .val (.int y1), .val (.int x0), .val (.int km), .unset, .unset, .unset, .unset, .unset, .unset, .unset, .unset, .unset, .unset, .unset, .unset]) rfl k) ?_
            show OwnEnds p.tables e below _ (s₁.setTop (mkF m 100 #[.val (.int p0), .val (.int p1), .val (.int p2), .val (.int p3), .val (.int p4), .val (.long q5), .second, .val (.int x0), .val (.int nr), .val (.int y1), .val (.int x0), .val (.int km), .unset, .unset, .unset, .unset, .unset, .unset, .unset, .unset, .unset, .unset, .unset, .unset] []))
            exact J100_4 _ _ (by simp only [if_neg hc76_90, if_pos hc93_91]) (by simp only [if_neg hc76_90, if_pos hc93_91])
          · skip
            refine own_via (fun t k => XS.icmpYes X0.here hx rfl (pc0 := 93) (pc' := 100) rfl (hb hby at_93) rfl (feq hc93_91).2 (by decide) (by decide) k) ?_
            show OwnEnds p.tables e below _ (s₁.setTop (mkF m 100 #[.val (.int p0), .val (.int p1), .val (.int p2), .val (.int p3), .val (.int p4), .val (.long q5), .second, .val (.int x0), .val (.int nr), .val (.int y1), .val (.int z1), .val (.int km), .unset, .unset, .unset, .unset, .unset, .unset, .unset, .unset, .unset, .unset, .unset, .unset] []))
            exact J100_4 _ _ (by simp only [if_neg hc76_90, if_neg hc93_91]) (by simp only [if_neg hc76_90, if_neg hc93_91])
      by_cases hc47_92 : nr = (0 : Int32)
      · skip
        refine own_via (fun t k => XS.ifYes X0.here hx rfl (pc0 := 47) (pc' := 63) rfl (hb hby at_47) rfl ((if0 _ _).trans (teq hc47_92).1) (by decide) (by decide) k) ?_
        show OwnEnds p.tables e below _ (s₁.setTop (mkF m 63 #[.val (.int p0), .val (.int p1), .val (.int p2), .val (.int p3), .val (.int p4), .val (.long q5), .second, .val (.int x0), .val (.int nr), .val (.int y1), .unset, .unset, .unset, .unset, .unset, .unset, .unset, .unset, .unset, .unset, .unset, .unset, .unset, .unset] []))
        refine own_via (fun t k => XS.iloadN X0.here hx rfl (hb hby at_63) rfl k) ?_
        show OwnEnds p.tables e below _ (s₁.setTop (mkF m 64 #[.val (.int p0), .val (.int p1), .val (.int p2), .val (.int p3), .val (.int p4), .val (.long q5), .second, .val (.int x0), .val (.int nr), .val (.int y1), .unset, .unset, .unset, .unset, .unset, .unset, .unset, .unset, .unset, .unset, .unset, .unset, .unset, .unset] [(.int p2)]))
        refine own_via (X0.ldcInt hx hown (mvT hZ (hw _ (List.mem_of_getElem? (i := 0) rfl))) (g := (mkF m 64 #[.val (.int p0), .val (.int p1), .val (.int p2), .val (.int p3), .val (.int p4), .val (.long q5), .second, .val (.int x0), .val (.int nr), .val (.int y1), .unset, .unset, .unset, .unset, .unset, .unset, .unset, .unset, .unset, .unset, .unset, .unset, .unset, .unset] [(.int p2)])) rfl (hb hby at_64)) ?_
        show OwnEnds p.tables e below _ (s₁.setTop (mkF m 66 #[.val (.int p0), .val (.int p1), .val (.int p2), .val (.int p3), .val (.int p4), .val (.long q5), .second, .val (.int x0), .val (.int nr), .val (.int y1), .unset, .unset, .unset, .unset, .unset, .unset, .unset, .unset, .unset, .unset, .unset, .unset, .unset, .unset] [(.int (65535 : Int32)), (.int p2)]))
        refine own_via (fun t k => XS.iand X0.here hx rfl (hb hby at_66) rfl k) ?_
        show OwnEnds p.tables e below _ (s₁.setTop (mkF m 67 #[.val (.int p0), .val (.int p1), .val (.int p2), .val (.int p3), .val (.int p4), .val (.long q5), .second, .val (.int x0), .val (.int nr), .val (.int y1), .unset, .unset, .unset, .unset, .unset, .unset, .unset, .unset, .unset, .unset, .unset, .unset, .unset, .unset] [(.int (p2 &&& (65535 : Int32)))]))
        exact J67_3 _ (by simp only [if_pos hc47_92])
      · skip
        refine own_via (fun t k => XS.ifNo X0.here hx rfl (hb hby at_47) rfl ((if0 _ _).trans (feq hc47_92).1) k) ?_
        show OwnEnds p.tables e below _ (s₁.setTop (mkF m 50 #[.val (.int p0), .val (.int p1), .val (.int p2), .val (.int p3), .val (.int p4), .val (.long q5), .second, .val (.int x0), .val (.int nr), .val (.int y1), .unset, .unset, .unset, .unset, .unset, .unset, .unset, .unset, .unset, .unset, .unset, .unset, .unset, .unset] []))
        refine own_via (fun t k => XS.iload X0.here hx rfl (hb hby at_50) rfl k) ?_
        show OwnEnds p.tables e below _ (s₁.setTop (mkF m 52 #[.val (.int p0), .val (.int p1), .val (.int p2), .val (.int p3), .val (.int p4), .val (.long q5), .second, .val (.int x0), .val (.int nr), .val (.int y1), .unset, .unset, .unset, .unset, .unset, .unset, .unset, .unset, .unset, .unset, .unset, .unset, .unset, .unset] [(.int x0)]))
        refine own_via (fun t k => XS.bipush X0.here hx rfl (hb hby at_52) k) ?_
        show OwnEnds p.tables e below _ (s₁.setTop (mkF m 54 #[.val (.int p0), .val (.int p1), .val (.int p2), .val (.int p3), .val (.int p4), .val (.long q5), .second, .val (.int x0), .val (.int nr), .val (.int y1), .unset, .unset, .unset, .unset, .unset, .unset, .unset, .unset, .unset, .unset, .unset, .unset, .unset, .unset] [(.int (-16 : Int32)), (.int x0)]))
        refine own_via (fun t k => XS.iand X0.here hx rfl (hb hby at_54) rfl k) ?_
        show OwnEnds p.tables e below _ (s₁.setTop (mkF m 55 #[.val (.int p0), .val (.int p1), .val (.int p2), .val (.int p3), .val (.int p4), .val (.long q5), .second, .val (.int x0), .val (.int nr), .val (.int y1), .unset, .unset, .unset, .unset, .unset, .unset, .unset, .unset, .unset, .unset, .unset, .unset, .unset, .unset] [(.int (x0 &&& (-16 : Int32)))]))
        refine own_via (fun t k => XS.iloadN X0.here hx rfl (hb hby at_55) rfl k) ?_
        show OwnEnds p.tables e below _ (s₁.setTop (mkF m 56 #[.val (.int p0), .val (.int p1), .val (.int p2), .val (.int p3), .val (.int p4), .val (.long q5), .second, .val (.int x0), .val (.int nr), .val (.int y1), .unset, .unset, .unset, .unset, .unset, .unset, .unset, .unset, .unset, .unset, .unset, .unset, .unset, .unset] [(.int p2), (.int (x0 &&& (-16 : Int32)))]))
        refine own_via (fun t k => XS.bipush X0.here hx rfl (hb hby at_56) k) ?_
        show OwnEnds p.tables e below _ (s₁.setTop (mkF m 58 #[.val (.int p0), .val (.int p1), .val (.int p2), .val (.int p3), .val (.int p4), .val (.long q5), .second, .val (.int x0), .val (.int nr), .val (.int y1), .unset, .unset, .unset, .unset, .unset, .unset, .unset, .unset, .unset, .unset, .unset, .unset, .unset, .unset] [(.int (15 : Int32)), (.int p2), (.int (x0 &&& (-16 : Int32)))]))
        refine own_via (fun t k => XS.iand X0.here hx rfl (hb hby at_58) rfl k) ?_
        show OwnEnds p.tables e below _ (s₁.setTop (mkF m 59 #[.val (.int p0), .val (.int p1), .val (.int p2), .val (.int p3), .val (.int p4), .val (.long q5), .second, .val (.int x0), .val (.int nr), .val (.int y1), .unset, .unset, .unset, .unset, .unset, .unset, .unset, .unset, .unset, .unset, .unset, .unset, .unset, .unset] [(.int (p2 &&& (15 : Int32))), (.int (x0 &&& (-16 : Int32)))]))
        refine own_via (fun t k => XS.ior X0.here hx rfl (hb hby at_59) rfl k) ?_
        show OwnEnds p.tables e below _ (s₁.setTop (mkF m 60 #[.val (.int p0), .val (.int p1), .val (.int p2), .val (.int p3), .val (.int p4), .val (.long q5), .second, .val (.int x0), .val (.int nr), .val (.int y1), .unset, .unset, .unset, .unset, .unset, .unset, .unset, .unset, .unset, .unset, .unset, .unset, .unset, .unset] [(.int ((x0 &&& (-16 : Int32)) ||| (p2 &&& (15 : Int32))))]))
        refine own_via (fun t k => XS.goto X0.here hx rfl (pc0 := 60) (pc' := 67) rfl (hb hby at_60) (by decide) (by decide) k) ?_
        show OwnEnds p.tables e below _ (s₁.setTop (mkF m 67 #[.val (.int p0), .val (.int p1), .val (.int p2), .val (.int p3), .val (.int p4), .val (.long q5), .second, .val (.int x0), .val (.int nr), .val (.int y1), .unset, .unset, .unset, .unset, .unset, .unset, .unset, .unset, .unset, .unset, .unset, .unset, .unset, .unset] [(.int ((x0 &&& (-16 : Int32)) ||| (p2 &&& (15 : Int32))))]))
        exact J67_3 _ (by simp only [if_neg hc47_92])
    by_cases hc23_93 : nr = (0 : Int32)
    · skip
      refine own_via (fun t k => XS.ifYes X0.here hx rfl (pc0 := 23) (pc' := 39) rfl (hb hby at_23) rfl ((if0 _ _).trans (teq hc23_93).1) (by decide) (by decide) k) ?_
      show OwnEnds p.tables e below _ (s₁.setTop (mkF m 39 #[.val (.int p0), .val (.int p1), .val (.int p2), .val (.int p3), .val (.int p4), .val (.long q5), .second, .val (.int x0), .val (.int nr), .unset, .unset, .unset, .unset, .unset, .unset, .unset, .unset, .unset, .unset, .unset, .unset, .unset, .unset, .unset] []))
      refine own_via (fun t k => XS.iloadN X0.here hx rfl (hb hby at_39) rfl k) ?_
      show OwnEnds p.tables e below _ (s₁.setTop (mkF m 40 #[.val (.int p0), .val (.int p1), .val (.int p2), .val (.int p3), .val (.int p4), .val (.long q5), .second, .val (.int x0), .val (.int nr), .unset, .unset, .unset, .unset, .unset, .unset, .unset, .unset, .unset, .unset, .unset, .unset, .unset, .unset, .unset] [(.int p1)]))
      refine own_via (X0.ldcInt hx hown (mvT hZ (hw _ (List.mem_of_getElem? (i := 0) rfl))) (g := (mkF m 40 #[.val (.int p0), .val (.int p1), .val (.int p2), .val (.int p3), .val (.int p4), .val (.long q5), .second, .val (.int x0), .val (.int nr), .unset, .unset, .unset, .unset, .unset, .unset, .unset, .unset, .unset, .unset, .unset, .unset, .unset, .unset, .unset] [(.int p1)])) rfl (hb hby at_40)) ?_
      show OwnEnds p.tables e below _ (s₁.setTop (mkF m 42 #[.val (.int p0), .val (.int p1), .val (.int p2), .val (.int p3), .val (.int p4), .val (.long q5), .second, .val (.int x0), .val (.int nr), .unset, .unset, .unset, .unset, .unset, .unset, .unset, .unset, .unset, .unset, .unset, .unset, .unset, .unset, .unset] [(.int (65535 : Int32)), (.int p1)]))
      refine own_via (fun t k => XS.iand X0.here hx rfl (hb hby at_42) rfl k) ?_
      show OwnEnds p.tables e below _ (s₁.setTop (mkF m 43 #[.val (.int p0), .val (.int p1), .val (.int p2), .val (.int p3), .val (.int p4), .val (.long q5), .second, .val (.int x0), .val (.int nr), .unset, .unset, .unset, .unset, .unset, .unset, .unset, .unset, .unset, .unset, .unset, .unset, .unset, .unset, .unset] [(.int (p1 &&& (65535 : Int32)))]))
      exact J43_2 _ (by simp only [if_pos hc23_93])
    · skip
      refine own_via (fun t k => XS.ifNo X0.here hx rfl (hb hby at_23) rfl ((if0 _ _).trans (feq hc23_93).1) k) ?_
      show OwnEnds p.tables e below _ (s₁.setTop (mkF m 26 #[.val (.int p0), .val (.int p1), .val (.int p2), .val (.int p3), .val (.int p4), .val (.long q5), .second, .val (.int x0), .val (.int nr), .unset, .unset, .unset, .unset, .unset, .unset, .unset, .unset, .unset, .unset, .unset, .unset, .unset, .unset, .unset] []))
      refine own_via (fun t k => XS.iload X0.here hx rfl (hb hby at_26) rfl k) ?_
      show OwnEnds p.tables e below _ (s₁.setTop (mkF m 28 #[.val (.int p0), .val (.int p1), .val (.int p2), .val (.int p3), .val (.int p4), .val (.long q5), .second, .val (.int x0), .val (.int nr), .unset, .unset, .unset, .unset, .unset, .unset, .unset, .unset, .unset, .unset, .unset, .unset, .unset, .unset, .unset] [(.int x0)]))
      refine own_via (fun t k => XS.bipush X0.here hx rfl (hb hby at_28) k) ?_
      show OwnEnds p.tables e below _ (s₁.setTop (mkF m 30 #[.val (.int p0), .val (.int p1), .val (.int p2), .val (.int p3), .val (.int p4), .val (.long q5), .second, .val (.int x0), .val (.int nr), .unset, .unset, .unset, .unset, .unset, .unset, .unset, .unset, .unset, .unset, .unset, .unset, .unset, .unset, .unset] [(.int (-16 : Int32)), (.int x0)]))
      refine own_via (fun t k => XS.iand X0.here hx rfl (hb hby at_30) rfl k) ?_
      show OwnEnds p.tables e below _ (s₁.setTop (mkF m 31 #[.val (.int p0), .val (.int p1), .val (.int p2), .val (.int p3), .val (.int p4), .val (.long q5), .second, .val (.int x0), .val (.int nr), .unset, .unset, .unset, .unset, .unset, .unset, .unset, .unset, .unset, .unset, .unset, .unset, .unset, .unset, .unset] [(.int (x0 &&& (-16 : Int32)))]))
      refine own_via (fun t k => XS.iloadN X0.here hx rfl (hb hby at_31) rfl k) ?_
      show OwnEnds p.tables e below _ (s₁.setTop (mkF m 32 #[.val (.int p0), .val (.int p1), .val (.int p2), .val (.int p3), .val (.int p4), .val (.long q5), .second, .val (.int x0), .val (.int nr), .unset, .unset, .unset, .unset, .unset, .unset, .unset, .unset, .unset, .unset, .unset, .unset, .unset, .unset, .unset] [(.int p1), (.int (x0 &&& (-16 : Int32)))]))
      refine own_via (fun t k => XS.bipush X0.here hx rfl (hb hby at_32) k) ?_
      show OwnEnds p.tables e below _ (s₁.setTop (mkF m 34 #[.val (.int p0), .val (.int p1), .val (.int p2), .val (.int p3), .val (.int p4), .val (.long q5), .second, .val (.int x0), .val (.int nr), .unset, .unset, .unset, .unset, .unset, .unset, .unset, .unset, .unset, .unset, .unset, .unset, .unset, .unset, .unset] [(.int (15 : Int32)), (.int p1), (.int (x0 &&& (-16 : Int32)))]))
      refine own_via (fun t k => XS.iand X0.here hx rfl (hb hby at_34) rfl k) ?_
      show OwnEnds p.tables e below _ (s₁.setTop (mkF m 35 #[.val (.int p0), .val (.int p1), .val (.int p2), .val (.int p3), .val (.int p4), .val (.long q5), .second, .val (.int x0), .val (.int nr), .unset, .unset, .unset, .unset, .unset, .unset, .unset, .unset, .unset, .unset, .unset, .unset, .unset, .unset, .unset] [(.int (p1 &&& (15 : Int32))), (.int (x0 &&& (-16 : Int32)))]))
      refine own_via (fun t k => XS.ior X0.here hx rfl (hb hby at_35) rfl k) ?_
      show OwnEnds p.tables e below _ (s₁.setTop (mkF m 36 #[.val (.int p0), .val (.int p1), .val (.int p2), .val (.int p3), .val (.int p4), .val (.long q5), .second, .val (.int x0), .val (.int nr), .unset, .unset, .unset, .unset, .unset, .unset, .unset, .unset, .unset, .unset, .unset, .unset, .unset, .unset, .unset] [(.int ((x0 &&& (-16 : Int32)) ||| (p1 &&& (15 : Int32))))]))
      refine own_via (fun t k => XS.goto X0.here hx rfl (pc0 := 36) (pc' := 43) rfl (hb hby at_36) (by decide) (by decide) k) ?_
      show OwnEnds p.tables e below _ (s₁.setTop (mkF m 43 #[.val (.int p0), .val (.int p1), .val (.int p2), .val (.int p3), .val (.int p4), .val (.long q5), .second, .val (.int x0), .val (.int nr), .unset, .unset, .unset, .unset, .unset, .unset, .unset, .unset, .unset, .unset, .unset, .unset, .unset, .unset, .unset] [(.int ((x0 &&& (-16 : Int32)) ||| (p1 &&& (15 : Int32))))]))
      exact J43_2 _ (by simp only [if_neg hc23_93])
  by_cases hc11_94 : (((p3.toUInt32 >>> ((2 : Int32) &&& 31).toUInt32).toInt32) &&& (1 : Int32)) = (0 : Int32)
  · skip
    refine own_via (fun t k => XS.ifYes X0.here hx rfl (pc0 := 11) (pc' := 18) rfl (hb hby at_11) rfl ((if0 _ _).trans (teq hc11_94).1) (by decide) (by decide) k) ?_
    show OwnEnds p.tables e below _ (s₁.setTop (mkF m 18 #[.val (.int p0), .val (.int p1), .val (.int p2), .val (.int p3), .val (.int p4), .val (.long q5), .second, .val (.int x0), .unset, .unset, .unset, .unset, .unset, .unset, .unset, .unset, .unset, .unset, .unset, .unset, .unset, .unset, .unset, .unset] []))
    refine own_via (fun t k => XS.iconst X0.here hx rfl (hb hby at_18) k) ?_
    show OwnEnds p.tables e below _ (s₁.setTop (mkF m 19 #[.val (.int p0), .val (.int p1), .val (.int p2), .val (.int p3), .val (.int p4), .val (.long q5), .second, .val (.int x0), .unset, .unset, .unset, .unset, .unset, .unset, .unset, .unset, .unset, .unset, .unset, .unset, .unset, .unset, .unset, .unset] [(.int (0 : Int32))]))
    exact J19_1 _ (by simp only [if_pos hc11_94])
  · skip
    refine own_via (fun t k => XS.ifNo X0.here hx rfl (hb hby at_11) rfl ((if0 _ _).trans (feq hc11_94).1) k) ?_
    show OwnEnds p.tables e below _ (s₁.setTop (mkF m 14 #[.val (.int p0), .val (.int p1), .val (.int p2), .val (.int p3), .val (.int p4), .val (.long q5), .second, .val (.int x0), .unset, .unset, .unset, .unset, .unset, .unset, .unset, .unset, .unset, .unset, .unset, .unset, .unset, .unset, .unset, .unset] []))
    refine own_via (fun t k => XS.iconst X0.here hx rfl (hb hby at_14) k) ?_
    show OwnEnds p.tables e below _ (s₁.setTop (mkF m 15 #[.val (.int p0), .val (.int p1), .val (.int p2), .val (.int p3), .val (.int p4), .val (.long q5), .second, .val (.int x0), .unset, .unset, .unset, .unset, .unset, .unset, .unset, .unset, .unset, .unset, .unset, .unset, .unset, .unset, .unset, .unset] [(.int (1 : Int32))]))
    refine own_via (fun t k => XS.goto X0.here hx rfl (pc0 := 15) (pc' := 19) rfl (hb hby at_15) (by decide) (by decide) k) ?_
    show OwnEnds p.tables e below _ (s₁.setTop (mkF m 19 #[.val (.int p0), .val (.int p1), .val (.int p2), .val (.int p3), .val (.int p4), .val (.long q5), .second, .val (.int x0), .unset, .unset, .unset, .unset, .unset, .unset, .unset, .unset, .unset, .unset, .unset, .unset, .unset, .unset, .unset, .unset] [(.int (1 : Int32))]))
    exact J19_1 _ (by simp only [if_neg hc11_94])
set_option maxRecDepth 65536 in
set_option maxHeartbeats 40000000 in
theorem comes_1 {Post : Tables → Env → Array Value → State → Outcome → State → Prop} (hpost : ∀ tb e args s v u, (limb_1_1.after args s (.returned v) u = true ∧ limb_1_2.after args s (.returned v) u = true ∧ True) → FrameEnd s (.returned v) u (Jvm.fieldLocs frame_1_writes args s ++ Jvm.arrayLocs frame_1_arrays args s ++ Jvm.staticLocs frame_1_statics s) 16 16512 → Post tb e args s (.returned v) u) :
    ArmFor flags0 classFile x code maxLocals ret World_1 tables_1 room_1 Calls_1 rest_1 Pre_1 Post := by
  intro l hfl _ _ p e ha hc hk s m args below hf hA hF happ hP
  obtain ⟨hcalls, hrest, hpre⟩ := hP
  obtain ⟨-, -, -, hnamed, -, -, -, hat⟩ := (Spec.applies_iff hf).mp happ
  obtain ⟨hg, hn⟩ := and_e (Cond.before_iff.mp (show (Jvm.Cond.and given_1 narrow_1).before args s = true from hpre))
  obtain ⟨hq0, hg0⟩ := and_e hg
  obtain ⟨hq1, hg1⟩ := and_e hg0
  obtain ⟨hq2, hg2⟩ := and_e hg1
  obtain ⟨hq3, hg3⟩ := and_e hg2
  obtain ⟨hq4, hg4⟩ := and_e hg3
  obtain ⟨hq5, hg5⟩ := and_e hg4
  obtain ⟨w0, w1, w2, w3, w4, w5, rfl⟩ : ∃ w0 w1 w2 w3 w4 w5 : Value, args = #[w0, w1, w2, w3, w4, w5] := by
    have hs : args.size = 6 := by simpa [Cond.value, given_1] using hq0
    obtain ⟨L⟩ := args
    match L, hs with
    | [w0, w1, w2, w3, w4, w5], _ => exact ⟨w0, w1, w2, w3, w4, w5, rfl⟩
  have hw := fun d (hd : d ∈ tables_1) => atoms_spec (ws := Jvm.Cond.code x code maxLocals ret :: tables_1) hat d (List.mem_cons_of_mem _ hd)
  have hfit : Fit s := fun {y c} hc i hi => by
    obtain ⟨ha, rfl⟩ := Array.getElem?_eq_some_iff.mp hc
    have q := List.all_eq_true.mp ((Array.all_eq_true_iff_forall_mem.mp hF) _ (Array.getElem_mem ha)) i (List.mem_range.mpr hi)
    simpa [Array.getElem?_eq_getElem hi] using q
  obtain ⟨i0, ei0⟩ := is_v hq1
  obtain rfl : w0 = (.int i0) := Option.some.inj ei0
  obtain ⟨i1, ei1⟩ := is_v hq2
  obtain rfl : w1 = (.int i1) := Option.some.inj ei1
  obtain ⟨i2, ei2⟩ := is_v hq3
  obtain rfl : w2 = (.int i2) := Option.some.inj ei2
  obtain ⟨i3, ei3⟩ := is_v hq4
  obtain rfl : w3 = (.int i3) := Option.some.inj ei3
  obtain ⟨i4, ei4⟩ := is_v hq5
  obtain rfl : w4 = (.int i4) := Option.some.inj ei4
  obtain ⟨i5, ei5⟩ := isL_v hg5
  obtain rfl : w5 = (.long i5) := Option.some.inj ei5
  obtain ⟨n, o, h1, h2, h3, _, L, rfl, ⟨rfl, N⟩, hq⟩ := rm0 l s _ hw tables_1 i0 i1 i2 i3 i4 i5 s.heap s.heap.size (Nat.le_refl _)  p e ha hc hk s m _ below hf ((Spec.applies_iff_loose hf).mp happ).1 ⟨rfl, State.Warmed39.refl s, rfl⟩ trivial
  refine ⟨n, _, h1, h2, h3, hpost _ _ _ _ _ _ ⟨Cond.after_iff.mpr rfl, Cond.after_iff.mpr (eq_i res_at (Term.int_eval (1)) rfl), trivial⟩ ⟨hq.1, hq.2.1, (hq.2.2.sift fun y hy => Or.inr (N y hy)).mono (by decide) (by decide)⟩⟩
theorem main_1_1 : Claimed_1_1 := comes_1 fun _ _ _ _ _ _ h hF => ⟨h.1, hF⟩
theorem main_1_2 : Claimed_1_2 := comes_1 fun _ _ _ _ _ _ h hF => ⟨h.2.1, hF⟩
end Jvm.Pilot.@@N@@
namespace Jvm.Pilot.@@N@@
open Jvm Jvm.ClassFile Sem Op Lib Jvm.Free Jvm.Stand Jvm.Pilot.@@N@@.Jvm.D
/-! MADE BY PROGRAM (witnessworld.py) out of the Statement's table words and the real class files: 9 classes; the members and pool entries that the words name. The judged class is class 1, her method 1. -/
namespace start1
open Jvm.ClassFile
def u (s : String) : CpInfo := .utf8 (stringToUtf16 s)
/-- a pool by its gaps: so many unusable entries, then the entry; so many at the end -/
def gap : Nat → List CpInfo → List CpInfo
  | 0, r => r
  | n + 1, r => .unusable :: gap n r
def poolList (es : List (Nat × CpInfo)) (last : Nat) : List CpInfo := es.foldr (fun e r => gap e.1 (e.2 :: r)) (gap last [])
def pool (es : List (Nat × CpInfo)) (last : Nat) : Array CpInfo := ⟨poolList es last⟩
def fileOf (pool : Array CpInfo) (this : Nat) (attrs : Array Attribute := #[]) (ms : Array MethodInfo := #[]) (fl : Nat := 33) (sup : Nat := 0) (ifs : Array Nat := #[]) (fds : Array FieldInfo := #[]) : ClassFile where
  minorVersion := 0
  majorVersion := 65
  constantPool := pool
  accessFlags := fl
  thisClass := this
  superClass := sup
  interfaces := ifs
  fields := fds
  methods := ms
  attributes := attrs
def plain (name : String) (sup : Option ClassId) : Class where
  name := name
  kind := .ordinary
  loader := none
  accessFlags := 33
  super := sup
  interfaces := #[]
  cf := none
  fields := #[]
  methods := #[]
  instanceTypes := #[]
  staticTypes := #[]
  resolved := #[]
  callSites := []
  init := .initialized
  statics := none
  mirror := none

def pool0 : Array CpInfo := pool [(5, u "<init>"), (0, u "()V"), (1, .class_ 10), (1, u "java/lang/Object")] 113

def k0c0 : Code := { maxStack := 0, maxLocals := 1, code := object_method_1_code, exceptionTable := #[], attributes := #[] }
def k0m0 : Method := { name := "<init>", desc := "()V", sig := { parameters := [], returnType := none }, accessFlags := 1, code := some k0c0 }
/-- java/lang/Object -/
def k0 : Class := { plain "java/lang/Object" none with
  accessFlags := 33
  interfaces := #[]
  cf := some (fileOf pool0 8 #[] #[{ accessFlags := 1, nameIndex := 5, descriptorIndex := 6, attributes := #[] }] 33 0 #[] #[])
  fields := #[]
  methods := #[k0m0]
  instanceTypes := #[]
  staticTypes := #[]
  resolved := Array.replicate 124 none
  statics := none }

def pool1 : Array CpInfo := pool [(2, .class_ 4), (1, u "java/lang/Object"), (0, u "<init>"), (0, u "()V"), (0, .integer 65535), (0, .class_ 9), (0, u "com/example/crowd_cache/crowdcache/core/Bucket"), (2, .long 140737488355327), (1, .methodref 8 15), (0, .nameAndType 5 16), (0, u "(J[I)V"), (0, .methodref 8 18), (0, .nameAndType 19 20), (0, u "toBitmap"), (0, u "()[B"), (0, .methodref 22 23), (0, .class_ 24), (0, .nameAndType 25 26), (0, u "com/example/crowd_cache/crowdcache/core/BucketToBitmapPinLaw"), (0, u "checkAt"), (0, u "([B[III)Z"), (0, .integer 2147483647), (0, .methodref 22 29), (0, .nameAndType 30 31), (0, u "expectedAt"), (0, u "([III)I"), (0, .methodref 22 33), (0, .nameAndType 34 35), (0, u "bitIn"), (0, u "(II)I"), (2, u "law"), (0, u "(IIIIIJ)Z")] 7

def k1m0 : Method := { name := "<init>", desc := "()V", sig := { parameters := [], returnType := none }, accessFlags := 2, code := none }
def k1c1 : Code := { maxStack := 6, maxLocals := 24, code := code, exceptionTable := #[], attributes := #[] }
def k1m1 : Method := { name := "law", desc := "(IIIIIJ)Z", sig := { parameters := [.int, .int, .int, .int, .int, .long], returnType := some .boolean }, accessFlags := 9, code := some k1c1 }
def k1c2 : Code := { maxStack := 4, maxLocals := 4, code := method_3_code, exceptionTable := #[], attributes := #[] }
def k1m2 : Method := { name := "checkAt", desc := "([B[III)Z", sig := { parameters := [(.array .byte), (.array .int), .int, .int], returnType := some .boolean }, accessFlags := 10, code := some k1c2 }
def k1c3 : Code := { maxStack := 3, maxLocals := 4, code := method_4_code, exceptionTable := #[], attributes := #[] }
def k1m3 : Method := { name := "expectedAt", desc := "([III)I", sig := { parameters := [(.array .int), .int, .int], returnType := some .int }, accessFlags := 10, code := some k1c3 }
def k1c4 : Code := { maxStack := 3, maxLocals := 2, code := method_5_code, exceptionTable := #[], attributes := #[] }
def k1m4 : Method := { name := "bitIn", desc := "(II)I", sig := { parameters := [.int, .int], returnType := some .int }, accessFlags := 10, code := some k1c4 }
/-- com/example/crowd_cache/crowdcache/core/BucketToBitmapPinLaw -/
def k1 : Class := { plain "com/example/crowd_cache/crowdcache/core/BucketToBitmapPinLaw" (some 0) with
  accessFlags := 49
  interfaces := #[]
  cf := some (fileOf pool1 22 #[] #[{ accessFlags := 2, nameIndex := 5, descriptorIndex := 6, attributes := #[] }, { accessFlags := 9, nameIndex := 38, descriptorIndex := 39, attributes := #[] }, { accessFlags := 10, nameIndex := 25, descriptorIndex := 26, attributes := #[] }, { accessFlags := 10, nameIndex := 30, descriptorIndex := 31, attributes := #[] }, { accessFlags := 10, nameIndex := 34, descriptorIndex := 35, attributes := #[] }] 49 2 #[] #[])
  fields := #[]
  methods := #[k1m0, k1m1, k1m2, k1m3, k1m4]
  instanceTypes := #[]
  staticTypes := #[]
  resolved := Array.replicate 47 none
  statics := none }

def pool2 : Array CpInfo := pool [(1, .methodref 2 3), (0, .class_ 4), (0, .nameAndType 5 6), (0, u "java/lang/Object"), (0, u "<init>"), (0, u "()V"), (0, .fieldref 8 9), (0, .class_ 10), (0, .nameAndType 11 12), (0, u "com/example/crowd_cache/crowdcache/core/Bucket"), (0, u "index"), (0, u "J"), (0, .fieldref 8 14), (0, .nameAndType 15 16), (0, u "positions"), (0, u "[I"), (3, u "WIDTH"), (0, u "I"), (2, u "POSITION_BITS"), (1, u "(J[I)V"), (16, u "toBitmap"), (0, u "()[B")] 3

def k2c0 : Code := { maxStack := 3, maxLocals := 4, code := prog_1_method_1_code, exceptionTable := #[], attributes := #[] }
def k2m0 : Method := { name := "<init>", desc := "(J[I)V", sig := { parameters := [.long, (.array .int)], returnType := none }, accessFlags := 0, code := some k2c0 }
def k2c1 : Code := { maxStack := 6, maxLocals := 6, code := prog_1_method_7_code, exceptionTable := #[], attributes := #[] }
def k2m1 : Method := { name := "toBitmap", desc := "()[B", sig := { parameters := [], returnType := some (.array .byte) }, accessFlags := 1, code := some k2c1 }
/-- com/example/crowd_cache/crowdcache/core/Bucket -/
def k2 : Class := { plain "com/example/crowd_cache/crowdcache/core/Bucket" (some 0) with
  accessFlags := 49
  interfaces := #[]
  cf := some (fileOf pool2 8 #[] #[{ accessFlags := 0, nameIndex := 5, descriptorIndex := 26, attributes := #[] }, { accessFlags := 1, nameIndex := 43, descriptorIndex := 44, attributes := #[] }] 49 2 #[] #[{ accessFlags := 25, nameIndex := 20, descriptorIndex := 21, attributes := #[] }, { accessFlags := 26, nameIndex := 24, descriptorIndex := 21, attributes := #[] }, { accessFlags := 18, nameIndex := 11, descriptorIndex := 12, attributes := #[] }, { accessFlags := 18, nameIndex := 15, descriptorIndex := 16, attributes := #[] }])
  fields := #[{ name := "WIDTH", type := .int, accessFlags := 25, slot := 0, constantValue := 0 }, { name := "POSITION_BITS", type := .int, accessFlags := 26, slot := 1, constantValue := 0 }, { name := "index", type := .long, accessFlags := 18, slot := 0, constantValue := 0 }, { name := "positions", type := (.array .int), accessFlags := 18, slot := 1, constantValue := 0 }]
  methods := #[k2m0, k2m1]
  instanceTypes := #[.long, (.array .int)]
  staticTypes := #[.int, .int]
  resolved := Array.replicate 48 none
  statics := none }

def pool3 : Array CpInfo := pool [(1, u "java/lang/Cloneable"), (0, .class_ 1), (0, u "java/lang/Object"), (0, .class_ 3)] 3

/-- java/lang/Cloneable -/
def k3 : Class := { plain "java/lang/Cloneable" (some 0) with
  accessFlags := 1537
  interfaces := #[]
  cf := some (fileOf pool3 2 #[] #[] 1537 4 #[] #[])
  fields := #[]
  methods := #[]
  instanceTypes := #[]
  staticTypes := #[]
  resolved := Array.replicate 8 none
  statics := none }

def pool4 : Array CpInfo := pool [(1, u "java/io/Serializable"), (0, .class_ 1), (0, u "java/lang/Object"), (0, .class_ 3)] 3

/-- java/io/Serializable -/
def k4 : Class := { plain "java/io/Serializable" (some 0) with
  accessFlags := 1537
  interfaces := #[]
  cf := some (fileOf pool4 2 #[] #[] 1537 4 #[] #[])
  fields := #[]
  methods := #[]
  instanceTypes := #[]
  staticTypes := #[]
  resolved := Array.replicate 8 none
  statics := none }

/-- the primitive byte -/
def k5 : Class := { plain "byte" none with kind := .primitive 'B', accessFlags := 0x411 }
/-- [B -/
def k6 : Class := { plain "[B" (some 0) with kind := .array 5 .byte, interfaces := #[3, 4], accessFlags := 1041 }

/-- the primitive int -/
def k7 : Class := { plain "int" none with kind := .primitive 'I', accessFlags := 0x411 }
/-- [I -/
def k8 : Class := { plain "[I" (some 0) with kind := .array 7 .int, interfaces := #[3, 4], accessFlags := 1041 }

def heap : Heap := #[]
def classes : Array Class := #[k0, k1, k2, k3, k4, k5, k6, k7, k8]
def interned : List (Array UInt16 × Addr) := []
def slotsUsed : Nat := 0
def theMethod : MethodId := ⟨1, 1⟩
def args0 : Array Value := #[.int 3, .int 300, .int 1, .int 7, .int 99, .long 5]
def aboutOver (below : List Frame) : State where
  vm := { classes := classes, interned := interned.toArray }
  heap := heap
  slotsUsed := slotsUsed
  threads := #[{ frames := .invoking theMethod args0 :: below }]
def below0 : List Frame := [.native { method := ⟨0, 0⟩, args := #[] }]
def about1 : State := aboutOver below0
def p0 : Program := .bare "" "" ""
def e0 : Env := launch0.env 0 0 0
theorem w_frames : about1.frames = Frame.invoking theMethod args0 :: below0 := rfl
set_option maxRecDepth 65536 in
theorem w_args : argsFit about1.vm theMethod args0 = true := by decide +kernel
set_option maxRecDepth 65536 in
theorem w_heap : heapFits about1 = true := by decide +kernel
set_option maxRecDepth 65536 in
theorem w_runnable : about1.curStatus? = some .runnable := by decide +kernel
set_option maxRecDepth 65536 in
theorem w_alone : about1.alone = true := by decide +kernel
set_option maxRecDepth 65536 in
theorem w_named : about1.methodNamed? x = some theMethod := by decide +kernel
set_option maxRecDepth 65536 in
theorem w_hears : about1.hears theMethod below0 = true := by decide +kernel
set_option maxRecDepth 65536 in
theorem w_ripe : about1.ripe theMethod args0 below0 = true := by decide +kernel
theorem w_running : about1.status = .running := rfl
set_option maxRecDepth 65536 in
theorem w_room : about1.hasRoom e0.platform room_1 = true :=
  launch0.hasRoom_least _ room_1 (by decide +kernel) (by decide +kernel) (by decide +kernel) (by decide +kernel) (by decide +kernel) (by decide +kernel)
theorem allAtoms_all (ts : List Jvm.Cond) (a : Array Jvm.Value) (st : Jvm.State) : (allAtoms ts).before a st = ts.all (fun c => c.before a st) := by
  induction ts with
  | nil => rfl
  | cons c t ih =>
    show (Jvm.Cond.and c (allAtoms t)).before a st = _
    rw [Jvm.Cond.before_and, ih, List.all_cons]
def words1 : List Jvm.Cond := Jvm.Cond.code x code maxLocals ret :: tables_1
/-- a 'code' word, met by the world's own term for the bytes: nothing is compared byte by byte -/
theorem code_word {y : MethodName} {bytes : ByteArray} {mx : Nat} {rt : Option FieldType} {a : Array Value} {s : State} {m : MethodId} {meth : Method} {c : Code} (h1 : s.methodNamed? y = some m) (h2 : s.vm.method? m = some meth) (h3 : meth.code = some c) (h4 : c.code = bytes)
    (h5 : (c.maxLocals == mx && c.exceptionTable.isEmpty && decide (c.maxStack ≤ mostOperands) && decide (meth.sig.returnType = rt) && !meth.locks && decide (parseMethodDescriptor y.desc = some meth.sig)) = true) : (Jvm.Cond.code y bytes mx rt).before a s = true := by
  simp only [Bool.and_eq_true, beq_iff_eq, Bool.not_eq_true', decide_eq_true_eq] at h5
  obtain ⟨⟨⟨⟨⟨g1, g2⟩, g3⟩, g4⟩, g5⟩, g6⟩ := h5
  simp [Cond.before, Cond.holds, Cond.value, h1, h2, h3, h4, g1, g2, g3, g4, g5, g6]
def isCode : Jvm.Cond → Bool
  | .code _ _ _ _ => true
  | _ => false
theorem all_split {L : List Jvm.Cond} {P : Jvm.Cond → Bool} (h1 : L.all (fun c => isCode c || P c) = true) (h2 : ∀ c ∈ L.filter isCode, P c = true) : L.all P = true := by
  refine List.all_eq_true.mpr fun c hc => ?_
  have h := List.all_eq_true.mp h1 c hc
  rcases Bool.eq_false_or_eq_true (isCode c) with hi | hi
  · exact h2 c (List.mem_filter.mpr ⟨hc, hi⟩)
  · simpa [hi] using h
set_option maxRecDepth 65536 in
theorem w_c0 : (Jvm.Cond.code x code maxLocals ret).before args0 about1 = true := code_word (m := ⟨1, 1⟩) (meth := k1m1) (c := k1c1) (by decide +kernel) rfl rfl rfl (by decide +kernel)
set_option maxRecDepth 65536 in
theorem w_c1 : (Jvm.Cond.code ({ cls := "com/example/crowd_cache/crowdcache/core/Bucket", name := "<init>", desc := "(J[I)V" } : Jvm.MethodName) prog_1_method_1_code (4 : Nat) (Option.none : Option Jvm.ClassFile.FieldType)).before args0 about1 = true := code_word (m := ⟨2, 0⟩) (meth := k2m0) (c := k2c0) (by decide +kernel) rfl rfl rfl (by decide +kernel)
set_option maxRecDepth 65536 in
theorem w_c2 : (Jvm.Cond.code ({ cls := "java/lang/Object", name := "<init>", desc := "()V" } : Jvm.MethodName) object_method_1_code (1 : Nat) (Option.none : Option Jvm.ClassFile.FieldType)).before args0 about1 = true := code_word (m := ⟨0, 0⟩) (meth := k0m0) (c := k0c0) (by decide +kernel) rfl rfl rfl (by decide +kernel)
set_option maxRecDepth 65536 in
theorem w_c3 : (Jvm.Cond.code ({ cls := "com/example/crowd_cache/crowdcache/core/Bucket", name := "toBitmap", desc := "()[B" } : Jvm.MethodName) prog_1_method_7_code (6 : Nat) (Option.some (Jvm.ClassFile.FieldType.array Jvm.ClassFile.FieldType.byte))).before args0 about1 = true := code_word (m := ⟨2, 1⟩) (meth := k2m1) (c := k2c1) (by decide +kernel) rfl rfl rfl (by decide +kernel)
set_option maxRecDepth 65536 in
theorem w_c4 : (Jvm.Cond.code ({ cls := "com/example/crowd_cache/crowdcache/core/BucketToBitmapPinLaw", name := "checkAt", desc := "([B[III)Z" } : Jvm.MethodName) method_3_code (4 : Nat) (Option.some Jvm.ClassFile.FieldType.boolean)).before args0 about1 = true := code_word (m := ⟨1, 2⟩) (meth := k1m2) (c := k1c2) (by decide +kernel) rfl rfl rfl (by decide +kernel)
set_option maxRecDepth 65536 in
theorem w_c5 : (Jvm.Cond.code ({ cls := "com/example/crowd_cache/crowdcache/core/BucketToBitmapPinLaw", name := "expectedAt", desc := "([III)I" } : Jvm.MethodName) method_4_code (4 : Nat) (Option.some Jvm.ClassFile.FieldType.int)).before args0 about1 = true := code_word (m := ⟨1, 3⟩) (meth := k1m3) (c := k1c3) (by decide +kernel) rfl rfl rfl (by decide +kernel)
set_option maxRecDepth 65536 in
theorem w_c6 : (Jvm.Cond.code ({ cls := "com/example/crowd_cache/crowdcache/core/BucketToBitmapPinLaw", name := "bitIn", desc := "(II)I" } : Jvm.MethodName) method_5_code (2 : Nat) (Option.some Jvm.ClassFile.FieldType.int)).before args0 about1 = true := code_word (m := ⟨1, 4⟩) (meth := k1m4) (c := k1c4) (by decide +kernel) rfl rfl rfl (by decide +kernel)
def codes1 : List Jvm.Cond := [Jvm.Cond.code x code maxLocals ret, Jvm.Cond.code ({ cls := "com/example/crowd_cache/crowdcache/core/Bucket", name := "<init>", desc := "(J[I)V" } : Jvm.MethodName) prog_1_method_1_code (4 : Nat) (Option.none : Option Jvm.ClassFile.FieldType), Jvm.Cond.code ({ cls := "java/lang/Object", name := "<init>", desc := "()V" } : Jvm.MethodName) object_method_1_code (1 : Nat) (Option.none : Option Jvm.ClassFile.FieldType), Jvm.Cond.code ({ cls := "com/example/crowd_cache/crowdcache/core/Bucket", name := "toBitmap", desc := "()[B" } : Jvm.MethodName) prog_1_method_7_code (6 : Nat) (Option.some (Jvm.ClassFile.FieldType.array Jvm.ClassFile.FieldType.byte)), Jvm.Cond.code ({ cls := "com/example/crowd_cache/crowdcache/core/BucketToBitmapPinLaw", name := "checkAt", desc := "([B[III)Z" } : Jvm.MethodName) method_3_code (4 : Nat) (Option.some Jvm.ClassFile.FieldType.boolean), Jvm.Cond.code ({ cls := "com/example/crowd_cache/crowdcache/core/BucketToBitmapPinLaw", name := "expectedAt", desc := "([III)I" } : Jvm.MethodName) method_4_code (4 : Nat) (Option.some Jvm.ClassFile.FieldType.int), Jvm.Cond.code ({ cls := "com/example/crowd_cache/crowdcache/core/BucketToBitmapPinLaw", name := "bitIn", desc := "(II)I" } : Jvm.MethodName) method_5_code (2 : Nat) (Option.some Jvm.ClassFile.FieldType.int)]
set_option maxRecDepth 65536 in
theorem codes_eq : words1.filter isCode = codes1 := rfl
theorem w_codes : ∀ c ∈ words1.filter isCode, c.before args0 about1 = true := by
  rw [codes_eq]
  intro c hc
  simp only [codes1, List.mem_cons, List.not_mem_nil, or_false] at hc
  rcases hc with rfl | rfl | rfl | rfl | rfl | rfl | rfl
  · exact w_c0
  · exact w_c1
  · exact w_c2
  · exact w_c3
  · exact w_c4
  · exact w_c5
  · exact w_c6
set_option maxRecDepth 65536 in
theorem w_t1 : (words1.take 24).all (fun c => isCode c || c.before args0 about1) = true := by decide +kernel
set_option maxRecDepth 65536 in
theorem w_t2 : (words1.drop 24).all (fun c => isCode c || c.before args0 about1) = true := by decide +kernel
theorem w_tables : (allAtoms (Jvm.Cond.code x code maxLocals ret :: tables_1)).before args0 about1 = true := by
  rw [allAtoms_all]
  show words1.all (fun c => c.before args0 about1) = true
  refine all_split ?_ w_codes
  rw [← List.take_append_drop 24 words1, List.all_append, w_t1, w_t2]
  rfl
set_option maxRecDepth 65536 in
theorem w_case : (Jvm.Cond.and given_1 narrow_1).before args0 about1 = true := by decide +kernel
theorem w_applies : (headSpec (Jvm.Cond.code x code maxLocals ret :: tables_1) room_1).applies x e0.platform about1 = true :=
  (Spec.applies_iff w_frames).mpr ⟨w_running, w_runnable, w_alone, w_named, w_hears, w_ripe, w_room, w_tables⟩
theorem atStart : AtStart classFile x code maxLocals ret World_1 tables_1 room_1 Calls_1 rest_1 Pre_1 launch0 p0 e0 about1 theMethod args0 below0 :=
  ⟨lists_1, trivial, launch0.admits_env _ _ _, launch0.least_env, fairChoices_fair.cas, fairChoices_fair.clock, w_frames, w_args, w_heap, w_applies, trivial, trivial, w_case⟩
end start1
theorem witness_1 : WitnessClaimed_1 := ⟨start1.p0, start1.e0, start1.about1, start1.theMethod, start1.args0, start1.below0, start1.atStart⟩
end Jvm.Pilot.@@N@@
