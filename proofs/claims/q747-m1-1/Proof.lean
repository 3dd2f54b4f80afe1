import JvmDerived
import JvmDerived.Pilot.@@N@@Statement
import JvmDerived.Pilot.@@N@@Code
set_option linter.unusedVariables false
set_option linter.unusedSimpArgs false
namespace Jvm.Pilot.@@N@@
open Jvm Jvm.ClassFile Sem Op Lib Jvm.Free Jvm.Stand Jvm.LawKit Jvm.RoadKit Bundle Jvm.Pilot.@@N@@.Jvm.D
section Own
variable {p : Program} {l : Launch} {e : Env} {R : Room} {s : State} {m : MethodId} {args : Array Value} {below : List Frame} {meth : Method} {c : Code} {T : State} {locs : List Loc} {cells slots : Nat}
/-- from U the run comes to an end of which Q holds -/
def OwnEnds (tb : Tables) (e : Env) (below : List Frame) (Q : Outcome → State → Prop) (U : State) : Prop :=
  ∃ s₂ o, Steps tb e below U s₂ ∧ s₂.status = .running ∧ Ended s₂ below o ∧ Q o s₂
abbrev OwnQ (s : State) (K N : Nat) (Q : Option Value → Heap → List Loc → Prop) : Outcome → State → Prop :=
  fun o U => ∃ v L, o = .returned v ∧ Q v U.heap L ∧ FrameEnd s o U L K N
theorem own_via {tb : Tables} {Q : Outcome → State → Prop} {U U' : State} (h : ∀ t, Steps tb e below U' t → Steps tb e below U t) (k : OwnEnds tb e below Q U') : OwnEnds tb e below Q U := by
  obtain ⟨s₂, o, h1, h2⟩ := k
  exact ⟨s₂, o, h _ h1, h2⟩
theorem own_of {tb : Tables} {Q : Outcome → State → Prop} {U U' : State} (h : Steps tb e below U U') (k : OwnEnds tb e below Q U') : OwnEnds tb e below Q U :=
  own_via (fun _ q => h.trans q) k
theorem own_wide {K N : Nat} (X : Stand p l e R s m args below meth c T locs cells slots) (h1 : cells ≤ K) (h2 : slots ≤ N) : Stand p l e R s m args below meth c T locs K N :=
  { X with same := X.same.mono h1 h2 }
theorem own_ret (X : Stand p l e R s m args below meth c T locs cells slots) {Q : Option Value → Heap → List Loc → Prop} {K N : Nat} {v : Option Value} (hv : meth.sig.returnType = none → v = none) (hlk : meth.locks = false) {f : JFrame}
    (st : ∀ fs, (∀ (f : JFrame) (acts : List Action), f.method = m → f.locked = none → f.entered = [] → (doReturn e (T.setTop f) acts v).1 = T.setFrames fs) → Steps p.tables e below (T.setTop f) (T.setFrames fs))
    (hQ : Q v T.heap locs) (hK : cells ≤ K) (hN : slots ≤ N) : OwnEnds p.tables e below (OwnQ s K N Q) (T.setTop f) := by
  obtain ⟨fs, hr, hrun, hended, hW, hsame⟩ := X.leave (v := v) hv hlk
  exact ⟨_, _, st fs hr, hrun, hended, _, _, rfl, hQ, ⟨_, rfl⟩, hW, hsame.mono hK hN⟩
theorem own_retI (X : Stand p l e R s m args below meth c T locs cells slots) (hx : p.tables.exec = Jvm.exec) {Q : Option Value → Heap → List Loc → Prop} {K N pc : Nat} {Ls : Array Slot} {z : Int32} {rest : List Value} (hret : meth.sig.returnType = some .int) (hlk : meth.locks = false) (hd : decode c.code pc = .ok (.ireturn, 1))
    (hQ : Q (some (.int z)) T.heap locs) (hK : cells ≤ K) (hN : slots ≤ N) : OwnEnds p.tables e below (OwnQ s K N Q) (T.setTop (mkF m pc Ls (.int z :: rest))) :=
  own_ret X (fun h => by rw [hret] at h; cases h) hlk (fun fs hl => retOut X hx hret rfl (Or.inl ⟨rfl, Or.inl rfl, z, rfl⟩) hd hl) hQ hK hN
theorem own_retN (X : Stand p l e R s m args below meth c T locs cells slots) (hx : p.tables.exec = Jvm.exec) {Q : Option Value → Heap → List Loc → Prop} {K N pc : Nat} {Ls : Array Slot} {z : Int32} {t : FieldType} {rest : List Value} (hret : meth.sig.returnType = some t) (ht : t = .boolean ∨ t = .byte ∨ t = .char ∨ t = .short) (hlk : meth.locks = false) (hd : decode c.code pc = .ok (.ireturn, 1))
    (hQ : Q (some (.int (nar t z))) T.heap locs) (hK : cells ≤ K) (hN : slots ≤ N) : OwnEnds p.tables e below (OwnQ s K N Q) (T.setTop (mkF m pc Ls (.int z :: rest))) :=
  own_ret X (fun h => by rw [hret] at h; cases h) hlk (fun fs hl => retN X hx hret ht hd hl) hQ hK hN
theorem own_retJ (X : Stand p l e R s m args below meth c T locs cells slots) (hx : p.tables.exec = Jvm.exec) {Q : Option Value → Heap → List Loc → Prop} {K N pc : Nat} {Ls : Array Slot} {z : Int64} {rest : List Value} (hret : meth.sig.returnType = some .long) (hlk : meth.locks = false) (hd : decode c.code pc = .ok (.lreturn, 1))
    (hQ : Q (some (.long z)) T.heap locs) (hK : cells ≤ K) (hN : slots ≤ N) : OwnEnds p.tables e below (OwnQ s K N Q) (T.setTop (mkF m pc Ls (.long z :: rest))) :=
  own_ret X (fun h => by rw [hret] at h; cases h) hlk (fun fs hl => retOut X hx hret rfl (Or.inr (Or.inl ⟨rfl, rfl, z, rfl⟩)) hd hl) hQ hK hN
theorem own_retA (X : Stand p l e R s m args below meth c T locs cells slots) (hx : p.tables.exec = Jvm.exec) {Q : Option Value → Heap → List Loc → Prop} {K N pc : Nat} {Ls : Array Slot} {w : Value} {t : FieldType} {rest : List Value} (hret : meth.sig.returnType = some t) (ht : t.isReference = true) (hw : w.isRef = true) (hlk : meth.locks = false) (hd : decode c.code pc = .ok (.areturn, 1))
    (hQ : Q (some w) T.heap locs) (hK : cells ≤ K) (hN : slots ≤ N) : OwnEnds p.tables e below (OwnQ s K N Q) (T.setTop (mkF m pc Ls (w :: rest))) :=
  own_ret X (fun h => by rw [hret] at h; cases h) hlk (fun fs hl => retOut X hx hret (by cases t <;> first | (cases ht; done) | (cases w <;> first | rfl | (cases hw; done))) (Or.inr (Or.inr (Or.inr (Or.inr ⟨rfl, ht, hw⟩)))) hd hl) hQ hK hN
theorem own_retV (X : Stand p l e R s m args below meth c T locs cells slots) (hx : p.tables.exec = Jvm.exec) {Q : Option Value → Heap → List Loc → Prop} {K N pc : Nat} {Ls : Array Slot} (hret : meth.sig.returnType = none) (hlk : meth.locks = false) (hd : decode c.code pc = .ok (.return_, 1))
    (hQ : Q none T.heap locs) (hK : cells ≤ K) (hN : slots ≤ N) : OwnEnds p.tables e below (OwnQ s K N Q) (T.setTop (mkF m pc Ls [])) :=
  own_ret X (fun _ => rfl) hlk (fun fs hl => X.returnOut hx hret hd hl) hQ hK hN
theorem own_lc_lt_t {x y : Int64} (h : x < y) : ifCond.holds .lt (lcmpW x y) = true ∧ ifCond.holds .ge (lcmpW x y) = false := by
  have q : lcmpW x y < 0 := by rw [lcW, lc_lt]; exact h
  exact ⟨(if0 _ _).trans (tlt q).1, (if0 _ _).trans (tlt q).2.1⟩
theorem own_lc_lt_f {x y : Int64} (h : ¬ (x < y)) : ifCond.holds .lt (lcmpW x y) = false ∧ ifCond.holds .ge (lcmpW x y) = true := by
  have q : ¬ lcmpW x y < 0 := by rw [lcW, lc_lt]; exact h
  exact ⟨(if0 _ _).trans (flt q).1, (if0 _ _).trans (flt q).2.1⟩
theorem own_lc_gt_t {x y : Int64} (h : y < x) : ifCond.holds .gt (lcmpW x y) = true ∧ ifCond.holds .le (lcmpW x y) = false := by
  have q : 0 < lcmpW x y := by rw [lcW, lc_gt]; exact h
  exact ⟨(if0 _ _).trans (tlt q).2.2.1, (if0 _ _).trans (tlt q).2.2.2⟩
theorem own_lc_gt_f {x y : Int64} (h : ¬ (y < x)) : ifCond.holds .gt (lcmpW x y) = false ∧ ifCond.holds .le (lcmpW x y) = true := by
  have q : ¬ 0 < lcmpW x y := by rw [lcW, lc_gt]; exact h
  exact ⟨(if0 _ _).trans (flt q).2.2.1, (if0 _ _).trans (flt q).2.2.2⟩
theorem own_lc_eq_t {x y : Int64} (h : x = y) : ifCond.holds .eq (lcmpW x y) = true ∧ ifCond.holds .ne (lcmpW x y) = false := by
  have q : lcmpW x y = 0 := by rw [lcW, lc_eq]; exact h
  exact ⟨(if0 _ _).trans (teq q).1, (if0 _ _).trans (teq q).2⟩
theorem own_lc_eq_f {x y : Int64} (h : ¬ (x = y)) : ifCond.holds .eq (lcmpW x y) = false ∧ ifCond.holds .ne (lcmpW x y) = true := by
  have q : ¬ lcmpW x y = 0 := by rw [lcW, lc_eq]; exact h
  exact ⟨(if0 _ _).trans (feq q).1, (if0 _ _).trans (feq q).2⟩
theorem own_lrem {g : JFrame} {target : State} (X : Stand p l e R s m args below meth c T locs cells slots) (hx : p.tables.exec = Jvm.exec) (hg : g.method = m) {x y : Int64} {rest : List Value} (hd : decode c.code g.pc = .ok (.lrem, 1)) (hs : g.stack = .long y :: .long x :: rest) (hy : y ≠ 0)
    (hr : Steps p.tables e below (T.setTop { g with pc := g.pc + 1, stack := .long (x % y) :: rest }) target) : Steps p.tables e below (T.setTop g) target := by
  have q : x - x / y * y = x % y := lrem_mod x y
  exact XS.lrem X.here hx hg hd hs hy (by rw [q]; exact hr)
theorem own_cat {w : Value} (h : w.isRef = true) : w.category = 1 := by rcases ref_cases h with rfl | ⟨a, rfl⟩ <;> rfl
theorem own_narR {w : Value} {t : FieldType} (ht : t.isReference = true) (h : w.isRef = true) : narrow t w = w := by
  cases t <;> first | (cases ht; done) | (rcases ref_cases h with rfl | ⟨a, rfl⟩ <;> rfl)
theorem own_fitR {w : Value} {t : FieldType} (ht : t.isReference = true) (h : w.isRef = true) : fits t w = true := by
  cases t <;> first | (cases ht; done) | (rcases ref_cases h with rfl | ⟨a, rfl⟩ <;> rfl)
theorem own_narb {c : Prop} [Decidable c] {r : Int32} (h : r = if c then 0 else 1) : nar .boolean r = r := by
  by_cases q : c
  · rw [if_pos q] at h; rw [h]; rfl
  · rw [if_neg q] at h; rw [h]; rfl
/-! arrays as lists of values -/
def AL (Z : State) (h : Heap) (a : Addr) (ty : FieldType) (xs : List Value) : Prop := ∃ c : Cell, Arr Z h a c ty ∧ c.slots.toList = xs ∧ xs.length < 2147483648
variable {Z : State} {h h' : Heap} {a b : Addr} {ty : FieldType} {xs : List Value} {sl : Nat} {v : Value} {ws : List Addr} {C n d : String}
theorem AL.lt (F : AL Z h a ty xs) : a < h.size := by obtain ⟨c, A, -⟩ := F; exact A.lt
theorem AL.ext (F : AL Z h a ty xs) (E : Ext h h') : AL Z h' a ty xs := by obtain ⟨c, A, r⟩ := F; exact ⟨c, A.ext E, r⟩
theorem AL.other (F : AL Z h a ty xs) (W : Wr h h' b sl v) (q : a ≠ b) : AL Z h' a ty xs := by obtain ⟨c, A, r⟩ := F; exact ⟨c, A.other W q, r⟩
theorem AL.keep (F : AL Z h a ty xs) (K : Keep h h' ws) (q : a ∉ ws) : AL Z h' a ty xs := by obtain ⟨c, A, r⟩ := F; exact ⟨c, ⟨K.2.1 a c A.1 q, A.2⟩, r⟩
theorem AL.new {k : ClassId} {z : Int32} (A : Arr Z h a (newA k ty z) ty) (q : ¬ z < 0) {i : Nat} (hi : z.toNatClampNeg = i) : AL Z h a ty (List.replicate i (defaultValue ty)) := by
  refine ⟨_, A, ?_, ?_⟩
  · simp [newA, hi]
  · rw [List.length_replicate, ← hi]; exact (back32 q).2
theorem AL.ne {C : String} (F : AL Z h a ty xs) (G : Exa Z h b C) {a0 : Array Value} {k : Nat} (wi : (Cond.instantiable C k).before a0 Z = true) : b ≠ a := by
  obtain ⟨c, A, -⟩ := F; exact ne_arr G wi A
theorem own_idx {cl : Cell} (hc : cl.slots.toList = xs) {j : Int32} {i : Nat} (hj : j.toInt = i) (hi : i < xs.length) : ¬ (j < 0 ∨ cl.slots.size ≤ j.toNatClampNeg) ∧ j.toNatClampNeg = i := by
  have h1 : j.toNatClampNeg = i := by simp only [Int32.toNatClampNeg, hj]; rfl
  have h2 : cl.slots.size = xs.length := by rw [← hc]; simp
  refine ⟨fun q => ?_, h1⟩
  rcases q with q | q
  · rw [Int32.lt_iff_toInt_lt, hj] at q; have e0 : (0 : Int32).toInt = 0 := rfl; omega
  · omega
theorem own_at {cl : Cell} (hc : cl.slots.toList = xs) {i : Nat} : cl.slots[i]? = xs[i]? := by rw [← hc]; simp
theorem AL.set {cl : Cell} (A : Arr Z h a cl ty) (hc : cl.slots.toList = xs) (hl : xs.length < 2147483648) {i : Nat} (W : Wr h h' a i v) : AL Z h' a ty (xs.set i v) := by
  refine ⟨_, A.same W, ?_, by simpa using hl⟩
  simp [Cell.setSlot, hc]
theorem own_stI (X : Stand p l e R s m args below meth c T locs cells slots) (hx : p.tables.exec = Jvm.exec) (hZ : Z.Warmed39 s.vm) (eT : T.heap = h) (A : AL Z h a .int xs) {j x : Int32} (i : Nat) (hj : j.toInt = i) (hi : i < xs.length) {g : JFrame} (hg : g.method = m) {rest : List Value} (hs : g.stack = .int x :: .int j :: .ref a :: rest) (hd : decode c.code g.pc = .ok (.iastore, 1)) :
    ∃ T' h', Stand p l e R s m args below meth c T' (locs ++ [⟨a, i⟩]) cells slots ∧ T'.heap = h' ∧ Wr h h' a i (.int x) ∧ AL Z h' a .int (xs.set i (.int x)) ∧ ∀ target, Steps p.tables e below (T'.setTop { g with pc := g.pc + 1, stack := rest }) target → Steps p.tables e below (T.setTop g) target := by
  obtain ⟨cl, A1, A2, A3⟩ := A
  obtain ⟨q1, q2⟩ := own_idx A2 hj hi
  obtain ⟨T', h', X', e', W, st⟩ := stI X hx hZ eT A1 q1 hg hs hd
  rw [q2] at X' W
  exact ⟨T', h', X', e', W, AL.set A1 A2 A3 W, st⟩
theorem own_stJ (X : Stand p l e R s m args below meth c T locs cells slots) (hx : p.tables.exec = Jvm.exec) (hZ : Z.Warmed39 s.vm) (eT : T.heap = h) (A : AL Z h a .long xs) {j : Int32} {x : Int64} (i : Nat) (hj : j.toInt = i) (hi : i < xs.length) {g : JFrame} (hg : g.method = m) {rest : List Value} (hs : g.stack = .long x :: .int j :: .ref a :: rest) (hd : decode c.code g.pc = .ok (.lastore, 1)) :
    ∃ T' h', Stand p l e R s m args below meth c T' (locs ++ [⟨a, i⟩]) cells slots ∧ T'.heap = h' ∧ Wr h h' a i (.long x) ∧ AL Z h' a .long (xs.set i (.long x)) ∧ ∀ target, Steps p.tables e below (T'.setTop { g with pc := g.pc + 1, stack := rest }) target → Steps p.tables e below (T.setTop g) target := by
  obtain ⟨cl, A1, A2, A3⟩ := A
  obtain ⟨q1, q2⟩ := own_idx A2 hj hi
  obtain ⟨T', h', X', e', W, st⟩ := stJ X hx hZ eT A1 q1 hg hs hd
  rw [q2] at X' W
  exact ⟨T', h', X', e', W, AL.set A1 A2 A3 W, st⟩
theorem own_stB (X : Stand p l e R s m args below meth c T locs cells slots) (hx : p.tables.exec = Jvm.exec) (hZ : Z.Warmed39 s.vm) (eT : T.heap = h) (A : AL Z h a .byte xs) {j x : Int32} (i : Nat) (hj : j.toInt = i) (hi : i < xs.length) {g : JFrame} (hg : g.method = m) {rest : List Value} (hs : g.stack = .int x :: .int j :: .ref a :: rest) (hd : decode c.code g.pc = .ok (.bastore, 1)) :
    ∃ T' h', Stand p l e R s m args below meth c T' (locs ++ [⟨a, i⟩]) cells slots ∧ T'.heap = h' ∧ Wr h h' a i (.int (nar .byte x)) ∧ AL Z h' a .byte (xs.set i (.int (nar .byte x))) ∧ ∀ target, Steps p.tables e below (T'.setTop { g with pc := g.pc + 1, stack := rest }) target → Steps p.tables e below (T.setTop g) target := by
  obtain ⟨cl, A1, A2, A3⟩ := A
  obtain ⟨q1, q2⟩ := own_idx A2 hj hi
  obtain ⟨T', h', X', e', W, st⟩ := stB X hx hZ eT A1 q1 hg hs hd
  rw [q2] at X' W
  exact ⟨T', h', X', e', W, AL.set A1 A2 A3 W, st⟩
theorem own_stZ (X : Stand p l e R s m args below meth c T locs cells slots) (hx : p.tables.exec = Jvm.exec) (hZ : Z.Warmed39 s.vm) (eT : T.heap = h) (A : AL Z h a .boolean xs) {j x : Int32} (i : Nat) (hj : j.toInt = i) (hi : i < xs.length) {g : JFrame} (hg : g.method = m) {rest : List Value} (hs : g.stack = .int x :: .int j :: .ref a :: rest) (hd : decode c.code g.pc = .ok (.bastore, 1)) :
    ∃ T' h', Stand p l e R s m args below meth c T' (locs ++ [⟨a, i⟩]) cells slots ∧ T'.heap = h' ∧ Wr h h' a i (.int (nar .boolean x)) ∧ AL Z h' a .boolean (xs.set i (.int (nar .boolean x))) ∧ ∀ target, Steps p.tables e below (T'.setTop { g with pc := g.pc + 1, stack := rest }) target → Steps p.tables e below (T.setTop g) target := by
  obtain ⟨cl, A1, A2, A3⟩ := A
  obtain ⟨q1, q2⟩ := own_idx A2 hj hi
  obtain ⟨T', h', X', e', W, st⟩ := stZ X hx hZ eT A1 q1 hg hs hd
  rw [q2] at X' W
  exact ⟨T', h', X', e', W, AL.set A1 A2 A3 W, st⟩
theorem own_stC (X : Stand p l e R s m args below meth c T locs cells slots) (hx : p.tables.exec = Jvm.exec) (hZ : Z.Warmed39 s.vm) (eT : T.heap = h) (A : AL Z h a .char xs) {j x : Int32} (i : Nat) (hj : j.toInt = i) (hi : i < xs.length) {g : JFrame} (hg : g.method = m) {rest : List Value} (hs : g.stack = .int x :: .int j :: .ref a :: rest) (hd : decode c.code g.pc = .ok (.castore, 1)) :
    ∃ T' h', Stand p l e R s m args below meth c T' (locs ++ [⟨a, i⟩]) cells slots ∧ T'.heap = h' ∧ Wr h h' a i (.int (nar .char x)) ∧ AL Z h' a .char (xs.set i (.int (nar .char x))) ∧ ∀ target, Steps p.tables e below (T'.setTop { g with pc := g.pc + 1, stack := rest }) target → Steps p.tables e below (T.setTop g) target := by
  obtain ⟨cl, A1, A2, A3⟩ := A
  obtain ⟨q1, q2⟩ := own_idx A2 hj hi
  obtain ⟨T', h', X', e', W, st⟩ := stC X hx hZ eT A1 q1 hg hs hd
  rw [q2] at X' W
  exact ⟨T', h', X', e', W, AL.set A1 A2 A3 W, st⟩
theorem own_lt_len {i : Nat} (hv : xs[i]? = some v) : i < xs.length := (List.getElem?_eq_some_iff.mp hv).1
theorem own_ldI (X : Stand p l e R s m args below meth c T locs cells slots) (hx : p.tables.exec = Jvm.exec) (hZ : Z.Warmed39 s.vm) (eT : T.heap = h) (A : AL Z h a .int xs) {j : Int32} (i : Nat) (hj : j.toInt = i) (hv : xs[i]? = some v) {g : JFrame} (hg : g.method = m) {rest : List Value} (hs : g.stack = .int j :: .ref a :: rest) (hd : decode c.code g.pc = .ok (.iaload, 1)) :
    ∀ target, Steps p.tables e below (T.setTop { g with pc := g.pc + 1, stack := v :: rest }) target → Steps p.tables e below (T.setTop g) target := by
  obtain ⟨cl, A1, A2, A3⟩ := A
  obtain ⟨q1, q2⟩ := own_idx A2 hj (own_lt_len hv)
  exact X.iaload hx (by rw [eT]; exact A1.1) (State.isArrayOf_alike hZ.alike A1.2.1) A1.2.2 q1 (by rw [q2, own_at A2]; exact hv) hg hs hd
theorem own_ldJ (X : Stand p l e R s m args below meth c T locs cells slots) (hx : p.tables.exec = Jvm.exec) (hZ : Z.Warmed39 s.vm) (eT : T.heap = h) (A : AL Z h a .long xs) {j : Int32} (i : Nat) (hj : j.toInt = i) (hv : xs[i]? = some v) {g : JFrame} (hg : g.method = m) {rest : List Value} (hs : g.stack = .int j :: .ref a :: rest) (hd : decode c.code g.pc = .ok (.laload, 1)) :
    ∀ target, Steps p.tables e below (T.setTop { g with pc := g.pc + 1, stack := v :: rest }) target → Steps p.tables e below (T.setTop g) target := by
  obtain ⟨cl, A1, A2, A3⟩ := A
  obtain ⟨q1, q2⟩ := own_idx A2 hj (own_lt_len hv)
  exact X.laload hx (by rw [eT]; exact A1.1) (State.isArrayOf_alike hZ.alike A1.2.1) A1.2.2 q1 (by rw [q2, own_at A2]; exact hv) hg hs hd
theorem own_ldB (X : Stand p l e R s m args below meth c T locs cells slots) (hx : p.tables.exec = Jvm.exec) (hZ : Z.Warmed39 s.vm) (eT : T.heap = h) (A : AL Z h a .byte xs) {j : Int32} (i : Nat) (hj : j.toInt = i) (hv : xs[i]? = some v) {g : JFrame} (hg : g.method = m) {rest : List Value} (hs : g.stack = .int j :: .ref a :: rest) (hd : decode c.code g.pc = .ok (.baload, 1)) :
    ∀ target, Steps p.tables e below (T.setTop { g with pc := g.pc + 1, stack := v :: rest }) target → Steps p.tables e below (T.setTop g) target := by
  obtain ⟨cl, A1, A2, A3⟩ := A
  obtain ⟨q1, q2⟩ := own_idx A2 hj (own_lt_len hv)
  exact X.baloadBytes hx (by rw [eT]; exact A1.1) (State.isArrayOf_alike hZ.alike A1.2.1) A1.2.2 q1 (by rw [q2, own_at A2]; exact hv) hg hs hd
theorem own_ldZ (X : Stand p l e R s m args below meth c T locs cells slots) (hx : p.tables.exec = Jvm.exec) (hZ : Z.Warmed39 s.vm) (eT : T.heap = h) (A : AL Z h a .boolean xs) {j : Int32} (i : Nat) (hj : j.toInt = i) (hv : xs[i]? = some v) {g : JFrame} (hg : g.method = m) {rest : List Value} (hs : g.stack = .int j :: .ref a :: rest) (hd : decode c.code g.pc = .ok (.baload, 1)) :
    ∀ target, Steps p.tables e below (T.setTop { g with pc := g.pc + 1, stack := v :: rest }) target → Steps p.tables e below (T.setTop g) target := by
  obtain ⟨cl, A1, A2, A3⟩ := A
  obtain ⟨q1, q2⟩ := own_idx A2 hj (own_lt_len hv)
  exact X.baloadBooleans hx (by rw [eT]; exact A1.1) (State.isArrayOf_alike hZ.alike A1.2.1) A1.2.2 q1 (by rw [q2, own_at A2]; exact hv) hg hs hd
theorem own_ldC (X : Stand p l e R s m args below meth c T locs cells slots) (hx : p.tables.exec = Jvm.exec) (hZ : Z.Warmed39 s.vm) (eT : T.heap = h) (A : AL Z h a .char xs) {j : Int32} (i : Nat) (hj : j.toInt = i) (hv : xs[i]? = some v) {g : JFrame} (hg : g.method = m) {rest : List Value} (hs : g.stack = .int j :: .ref a :: rest) (hd : decode c.code g.pc = .ok (.caload, 1)) :
    ∀ target, Steps p.tables e below (T.setTop { g with pc := g.pc + 1, stack := v :: rest }) target → Steps p.tables e below (T.setTop g) target := by
  obtain ⟨cl, A1, A2, A3⟩ := A
  obtain ⟨q1, q2⟩ := own_idx A2 hj (own_lt_len hv)
  exact X.caload hx (by rw [eT]; exact A1.1) (State.isArrayOf_alike hZ.alike A1.2.1) A1.2.2 q1 (by rw [q2, own_at A2]; exact hv) hg hs hd
theorem own_ldA (X : Stand p l e R s m args below meth c T locs cells slots) (hx : p.tables.exec = Jvm.exec) (hZ : Z.Warmed39 s.vm) (eT : T.heap = h) (A : AL Z h a ty xs) (hty : ty.isReference = true) {j : Int32} (i : Nat) (hj : j.toInt = i) (hv : xs[i]? = some v) {g : JFrame} (hg : g.method = m) {rest : List Value} (hs : g.stack = .int j :: .ref a :: rest) (hd : decode c.code g.pc = .ok (.aaload, 1)) :
    ∀ target, Steps p.tables e below (T.setTop { g with pc := g.pc + 1, stack := v :: rest }) target → Steps p.tables e below (T.setTop g) target := by
  obtain ⟨cl, A1, A2, A3⟩ := A
  obtain ⟨q1, q2⟩ := own_idx A2 hj (own_lt_len hv)
  exact X.aaload hx (by rw [eT]; exact A1.1) (State.isArrayOf_alike hZ.alike A1.2.1) hty A1.2.2 q1 (by rw [q2, own_at A2]; exact hv) hg hs hd
theorem own_len (X : Stand p l e R s m args below meth c T locs cells slots) (hx : p.tables.exec = Jvm.exec) (hZ : Z.Warmed39 s.vm) (eT : T.heap = h) (A : AL Z h a ty xs) {z : Int32} (hz : z.toInt = xs.length) {g : JFrame} (hg : g.method = m) {rest : List Value} (hs : g.stack = .ref a :: rest) (hd : decode c.code g.pc = .ok (.arraylength, 1)) :
    ∀ target, Steps p.tables e below (T.setTop { g with pc := g.pc + 1, stack := .int z :: rest }) target → Steps p.tables e below (T.setTop g) target := by
  obtain ⟨cl, A1, A2, A3⟩ := A
  have h2 : cl.slots.size = xs.length := by rw [← A2]; simp
  have e1 : cl.slots.size.toInt32 = z := Int32.toInt_inj.mp (by rw [len_toInt (by omega), hz, h2])
  intro target k
  exact X.arraylength hx (by rw [eT]; exact A1.1) (State.isArrayOf_alike hZ.alike A1.2.1) hg hs hd target (by rw [e1]; exact k)
end Own

theorem own_nar1 : nar .boolean (1 : Int32) = 1 := rfl
theorem own_nar0 : nar .boolean (0 : Int32) = 0 := rfl
def own_bh : List Int32 → Int32
  | [] => 0
  | r :: rs => (if r = 0 then 1 else 0) + own_bh rs
def OwnCh (Z : State) (h : Heap) : Value → List Int32 → Prop
  | v, [] => v = .null
  | v, r :: rs => ∃ (a : Addr) (w : Value), v = .ref a ∧ Fld Z h a "com/example/rowan/rowan/Node" "red" "Z" (.int r) ∧ Fld Z h a "com/example/rowan/rowan/Node" "left" "Lcom/example/rowan/rowan/Node;" w ∧ OwnCh Z h w rs
theorem own_chref {Z : State} {h : Heap} {v : Value} {xs : List Int32} (H : OwnCh Z h v xs) : v.isRef = true := by
  cases xs with
  | nil => cases H; rfl
  | cons r rs => obtain ⟨a, w, rfl, -⟩ := H; rfl
theorem own_n {x n : Int32} (h : n = (x &&& 7) % 5) : n = 0 ∨ n = 1 ∨ n = 2 ∨ n = 3 ∨ n = 4 := by
  have h1 := c_and x 7 (by decide)
  have h2 := (c_irem (x &&& 7) 5 5 rfl).1 h1.1
  rw [← h] at h2
  simp only [← Int32.toInt_inj, Int32.reduceToInt]
  omega
theorem own_up1 {a b c r t : Int32} (h : a + ((if r = 0 then 1 else 0) + b) = t) (q : r = 0) : a + 1 + b = t := by rw [← h, if_pos q, Int32.add_assoc]
theorem own_up0 {a b c r t : Int32} (h : a + ((if r = 0 then 1 else 0) + b) = t) (q : ¬ r = 0) : a + b = t := by rw [← h, if_neg q, Int32.zero_add]
theorem own_b1 {r0 e1 : Int32} (h1 : e1 = if r0 = 0 then 0 + 1 else 0) : own_bh [r0] = e1 := by
  rw [h1]; simp only [own_bh]
  by_cases q0 : r0 = 0 <;> simp only [q0, if_true, if_false] <;> rfl
theorem own_b2 {r0 r1 e1 e2 : Int32} (h1 : e1 = if r0 = 0 then 0 + 1 else 0) (h2 : e2 = if r1 = 0 then e1 + 1 else e1) : own_bh [r0, r1] = e2 := by
  rw [h2, h1]; simp only [own_bh]
  by_cases q0 : r0 = 0 <;> by_cases q1 : r1 = 0 <;> simp only [q0, q1, if_true, if_false] <;> rfl
theorem own_b3 {r0 r1 r2 e1 e2 e3 : Int32} (h1 : e1 = if r0 = 0 then 0 + 1 else 0) (h2 : e2 = if r1 = 0 then e1 + 1 else e1) (h3 : e3 = if r2 = 0 then e2 + 1 else e2) : own_bh [r0, r1, r2] = e3 := by
  rw [h3, h2, h1]; simp only [own_bh]
  by_cases q0 : r0 = 0 <;> by_cases q1 : r1 = 0 <;> by_cases q2 : r2 = 0 <;> simp only [q0, q1, q2, if_true, if_false] <;> rfl
theorem own_b4 {r0 r1 r2 r3 e1 e2 e3 e4 : Int32} (h1 : e1 = if r0 = 0 then 0 + 1 else 0) (h2 : e2 = if r1 = 0 then e1 + 1 else e1) (h3 : e3 = if r2 = 0 then e2 + 1 else e2) (h4 : e4 = if r3 = 0 then e3 + 1 else e3) : own_bh [r0, r1, r2, r3] = e4 := by
  rw [h4, h3, h2, h1]; simp only [own_bh]
  by_cases q0 : r0 = 0 <;> by_cases q1 : r1 = 0 <;> by_cases q2 : r2 = 0 <;> by_cases q3 : r3 = 0 <;> simp only [q0, q1, q2, q3, if_true, if_false] <;> rfl
theorem d1_0 : decode prog_16_method_1_code 0 = .ok (.aload_n 0, 1) := by decide +kernel
theorem d1_1 : decode prog_16_method_1_code 1 = .ok (.invokespecial 1, 3) := by decide +kernel
theorem d1_4 : decode prog_16_method_1_code 4 = .ok (.aload_n 0, 1) := by decide +kernel
theorem d1_5 : decode prog_16_method_1_code 5 = .ok (.aload_n 1, 1) := by decide +kernel
theorem d1_6 : decode prog_16_method_1_code 6 = .ok (.putfield 7, 3) := by decide +kernel
theorem d1_9 : decode prog_16_method_1_code 9 = .ok (.aload_n 0, 1) := by decide +kernel
theorem d1_10 : decode prog_16_method_1_code 10 = .ok (.aload_n 2, 1) := by decide +kernel
theorem d1_11 : decode prog_16_method_1_code 11 = .ok (.putfield 13, 3) := by decide +kernel
theorem d1_14 : decode prog_16_method_1_code 14 = .ok (.aload_n 0, 1) := by decide +kernel
theorem d1_15 : decode prog_16_method_1_code 15 = .ok (.iconst 1, 1) := by decide +kernel
theorem d1_16 : decode prog_16_method_1_code 16 = .ok (.putfield 16, 3) := by decide +kernel
theorem d1_19 : decode prog_16_method_1_code 19 = .ok (.return_, 1) := by decide +kernel
theorem pn_0 : plainName "com/example/rowan/rowan/Node" = true := by first | (simp [plainName, overriddenIn]; done) | decide +kernel
theorem ef_1 (m : MethodId) (a0 : Addr) : entryFrame m #[(.ref a0), .null, .null] 3 = mkF m 0 #[.val (.ref a0), .val .null, .val .null] [] := by first | (simp [entryFrame, mkF, argsToLocals, Value.category]; done) | rfl
def Q1 (Z : State) (a0 : Addr) (h0 : Heap) (n0 : Nat) (v : Option Value) (h : Heap) (L : List Loc) : Prop := v = none ∧ Fr n0 L ∧ Keep h0 h [a0] ∧ Exa Z h a0 "com/example/rowan/rowan/Node" ∧ Fld Z h a0 "com/example/rowan/rowan/Node" "left" "Lcom/example/rowan/rowan/Node;" .null ∧ Fld Z h a0 "com/example/rowan/rowan/Node" "right" "Lcom/example/rowan/rowan/Node;" .null ∧ Fld Z h a0 "com/example/rowan/rowan/Node" "red" "Z" (.int (1 : Int32))
set_option maxRecDepth 65536 in
set_option maxHeartbeats 40000000 in
theorem rm1 (l : Launch) (Z : State) (aw : Array Value) (hw : ∀ d ∈ tables_1, d.before aw Z = true) (ws : List Jvm.Cond) (a0 : Addr) (h0 : Heap) (n0 : Nat) (Z0 : n0 ≤ h0.size) (E_a0 : Exa Z h0 a0 "com/example/rowan/rowan/Node") (F_key_a0 : Fld Z h0 a0 "com/example/rowan/rowan/Node" "key" "Ljava/lang/Object;" .null) (F_value_a0 : Fld Z h0 a0 "com/example/rowan/rowan/Node" "value" "Ljava/lang/Object;" .null) (F_left_a0 : Fld Z h0 a0 "com/example/rowan/rowan/Node" "left" "Lcom/example/rowan/rowan/Node;" .null) (F_right_a0 : Fld Z h0 a0 "com/example/rowan/rowan/Node" "right" "Lcom/example/rowan/rowan/Node;" .null) (F_red_a0 : Fld Z h0 a0 "com/example/rowan/rowan/Node" "red" "Z" (.int (0 : Int32))) (g_a0 : n0 ≤ a0) :
    MetFree l (⟨"com/example/rowan/rowan/Node", "<init>", "(Ljava/lang/Object;Ljava/lang/Object;)V"⟩ : MethodName) (head1 (Jvm.Cond.code (⟨"com/example/rowan/rowan/Node", "<init>", "(Ljava/lang/Object;Ljava/lang/Object;)V"⟩ : MethodName) prog_16_method_1_code 3 none :: ws) ({ frames := 1, cells := 0, slots := 0, locals := 12 } : Room)) (fun a U => a = #[(.ref a0), .null, .null] ∧ Z.Warmed39 U.vm ∧ U.heap = h0) (fun _ _ _ _ _ => True) (fun _ U o U' => ∃ v L, o = .returned v ∧ Q1 Z a0 h0 n0 v U'.heap L ∧ FrameEnd U o U' L ({ frames := 1, cells := 0, slots := 0, locals := 12 } : Room).cells ({ frames := 1, cells := 0, slots := 0, locals := 12 } : Room).slots) := by
  refine MetFree.of_bodySF (plainFor_of_name pn_0) hisR ?_
  intro p e s m args below meth c s₁ Bd hml0 hP hK
  obtain ⟨rfl, hZ, hh⟩ := hP
  have hx := Bd.exec
  have hby := Bd.bytes
  have hml : c.maxLocals = 3 := hml0
  have hown : s.vm.findClass "com/example/rowan/rowan/Node" = some m.cls := findClass_of_methodNamed Bd.named
  have hnm := (name_of_methodNamed Bd.named Bd.method).1
  have hlk : meth.locks = false := Bd.notSynchronized
  have X0 : Stand p l e ({ frames := 1, cells := 0, slots := 0, locals := 12 } : Room) s m #[(.ref a0), .null, .null] below meth c s₁ [] 0 0 := Stand.of_body Bd
  have e0 : s₁.heap = h0 := by rw [← hh, Bd.state]; rfl
  have N0 := Fr.nil n0
  show OwnEnds p.tables e below (OwnQ s ({ frames := 1, cells := 0, slots := 0, locals := 12 } : Room).cells ({ frames := 1, cells := 0, slots := 0, locals := 12 } : Room).slots (Q1 Z a0 h0 n0)) (s₁.setTop (entryFrame m #[(.ref a0), .null, .null] 3))
  refine own_via (fun t k => castTop (ef_1 m a0) k) ?_
  show OwnEnds p.tables e below _ (s₁.setTop (mkF m 0 #[.val (.ref a0), .val .null, .val .null] []))
  have K0 : Keep h0 h0 [a0] := Keep.refl _ _
  refine own_via (fun t k => XS.aloadN X0.here hx rfl (hb hby d1_0) rfl rfl k) ?_
  show OwnEnds p.tables e below _ (s₁.setTop (mkF m 1 #[.val (.ref a0), .val .null, .val .null] [(.ref a0)]))
  obtain ⟨T1, X1, e1, st1⟩ := initO X0 hx hZ hown (hw _ (List.mem_of_getElem? (i := 6) rfl)) (hw _ (List.mem_of_getElem? (i := 7) rfl)) (hw _ (List.mem_of_getElem? (i := 8) rfl)) e0 (g := (mkF m 1 #[.val (.ref a0), .val .null, .val .null] [(.ref a0)])) rfl (by rw [hml]; rfl) rfl (hb hby d1_1) (by decide) (W := 0) (by show 2 * 0 + _ ≤ _; exact Nat.le_of_eq rfl) (by decide)
  refine own_via st1 ?_
  show OwnEnds p.tables e below _ (T1.setTop (mkF m 4 #[.val (.ref a0), .val .null, .val .null] []))
  refine own_via (fun t k => XS.aloadN X1.here hx rfl (hb hby d1_4) rfl rfl k) ?_
  show OwnEnds p.tables e below _ (T1.setTop (mkF m 5 #[.val (.ref a0), .val .null, .val .null] [(.ref a0)]))
  refine own_via (fun t k => XS.aloadN X1.here hx rfl (hb hby d1_5) rfl rfl k) ?_
  show OwnEnds p.tables e below _ (T1.setTop (mkF m 6 #[.val (.ref a0), .val .null, .val .null] [.null, (.ref a0)]))
  obtain ⟨T2, h2, X2, e2, W2, st2⟩ := putF X1 hx hZ hown (host := "") (Or.inl (hw _ (List.mem_of_getElem? (i := 9) rfl))) Via.refl e1 F_key_a0 E_a0 (Or.inl (hw _ (List.mem_of_getElem? (i := 10) rfl))) (hw _ (List.mem_of_getElem? (i := 1) rfl)) (ty := (.object "java/lang/Object")) (by decide) rfl rfl (g := (mkF m 6 #[.val (.ref a0), .val .null, .val .null] [.null, (.ref a0)])) rfl rfl (hb hby d1_6)
  replace E_a0 := E_a0.wr W2
  replace F_key_a0 := F_key_a0.same W2
  replace F_value_a0 := F_value_a0.other W2 (Or.inr (slot_ne (Or.inl (hw _ (List.mem_of_getElem? (i := 12) rfl))) (Or.inl (hw _ (List.mem_of_getElem? (i := 10) rfl))) (by decide) (t := (.object "java/lang/Object")) (t' := (.object "java/lang/Object")) (by decide) (by decide)))
  replace F_left_a0 := F_left_a0.other W2 (Or.inr (slot_ne (Or.inl (hw _ (List.mem_of_getElem? (i := 22) rfl))) (Or.inl (hw _ (List.mem_of_getElem? (i := 10) rfl))) (by decide) (t := (.object "com/example/rowan/rowan/Node")) (t' := (.object "java/lang/Object")) (by decide) (by decide)))
  replace F_right_a0 := F_right_a0.other W2 (Or.inr (slot_ne (Or.inl (hw _ (List.mem_of_getElem? (i := 20) rfl))) (Or.inl (hw _ (List.mem_of_getElem? (i := 10) rfl))) (by decide) (t := (.object "com/example/rowan/rowan/Node")) (t' := (.object "java/lang/Object")) (by decide) (by decide)))
  replace F_red_a0 := F_red_a0.other W2 (Or.inr (slot_ne (Or.inl (hw _ (List.mem_of_getElem? (i := 14) rfl))) (Or.inl (hw _ (List.mem_of_getElem? (i := 10) rfl))) (by decide) (t := .boolean) (t' := (.object "java/lang/Object")) (by decide) (by decide)))
  replace K0 := K0.wr W2 (Or.inl (List.mem_of_getElem? (i := 0) rfl))
  have Zs_W2 : n0 ≤ _ := Nat.le_trans Z0 (Keep.of_wr W2).1
  have N2 := Fr.snoc X2 N0 g_a0
  refine own_via st2 ?_
  show OwnEnds p.tables e below _ (T2.setTop (mkF m 9 #[.val (.ref a0), .val .null, .val .null] []))
  refine own_via (fun t k => XS.aloadN X2.here hx rfl (hb hby d1_9) rfl rfl k) ?_
  show OwnEnds p.tables e below _ (T2.setTop (mkF m 10 #[.val (.ref a0), .val .null, .val .null] [(.ref a0)]))
  refine own_via (fun t k => XS.aloadN X2.here hx rfl (hb hby d1_10) rfl rfl k) ?_
  show OwnEnds p.tables e below _ (T2.setTop (mkF m 11 #[.val (.ref a0), .val .null, .val .null] [.null, (.ref a0)]))
  obtain ⟨T3, h3, X3, e3, W3, st3⟩ := putF X2 hx hZ hown (host := "") (Or.inl (hw _ (List.mem_of_getElem? (i := 11) rfl))) Via.refl e2 F_value_a0 E_a0 (Or.inl (hw _ (List.mem_of_getElem? (i := 12) rfl))) (hw _ (List.mem_of_getElem? (i := 1) rfl)) (ty := (.object "java/lang/Object")) (by decide) rfl rfl (g := (mkF m 11 #[.val (.ref a0), .val .null, .val .null] [.null, (.ref a0)])) rfl rfl (hb hby d1_11)
  replace E_a0 := E_a0.wr W3
  replace F_key_a0 := F_key_a0.other W3 (Or.inr (slot_ne (Or.inl (hw _ (List.mem_of_getElem? (i := 10) rfl))) (Or.inl (hw _ (List.mem_of_getElem? (i := 12) rfl))) (by decide) (t := (.object "java/lang/Object")) (t' := (.object "java/lang/Object")) (by decide) (by decide)))
  replace F_value_a0 := F_value_a0.same W3
  replace F_left_a0 := F_left_a0.other W3 (Or.inr (slot_ne (Or.inl (hw _ (List.mem_of_getElem? (i := 22) rfl))) (Or.inl (hw _ (List.mem_of_getElem? (i := 12) rfl))) (by decide) (t := (.object "com/example/rowan/rowan/Node")) (t' := (.object "java/lang/Object")) (by decide) (by decide)))
  replace F_right_a0 := F_right_a0.other W3 (Or.inr (slot_ne (Or.inl (hw _ (List.mem_of_getElem? (i := 20) rfl))) (Or.inl (hw _ (List.mem_of_getElem? (i := 12) rfl))) (by decide) (t := (.object "com/example/rowan/rowan/Node")) (t' := (.object "java/lang/Object")) (by decide) (by decide)))
  replace F_red_a0 := F_red_a0.other W3 (Or.inr (slot_ne (Or.inl (hw _ (List.mem_of_getElem? (i := 14) rfl))) (Or.inl (hw _ (List.mem_of_getElem? (i := 12) rfl))) (by decide) (t := .boolean) (t' := (.object "java/lang/Object")) (by decide) (by decide)))
  replace K0 := K0.wr W3 (Or.inl (List.mem_of_getElem? (i := 0) rfl))
  have Zs_W3 : n0 ≤ _ := Nat.le_trans Zs_W2 (Keep.of_wr W3).1
  have N3 := Fr.snoc X3 N2 g_a0
  refine own_via st3 ?_
  show OwnEnds p.tables e below _ (T3.setTop (mkF m 14 #[.val (.ref a0), .val .null, .val .null] []))
  refine own_via (fun t k => XS.aloadN X3.here hx rfl (hb hby d1_14) rfl rfl k) ?_
  show OwnEnds p.tables e below _ (T3.setTop (mkF m 15 #[.val (.ref a0), .val .null, .val .null] [(.ref a0)]))
  refine own_via (fun t k => XS.iconst X3.here hx rfl (hb hby d1_15) k) ?_
  show OwnEnds p.tables e below _ (T3.setTop (mkF m 16 #[.val (.ref a0), .val .null, .val .null] [(.int (1 : Int32)), (.ref a0)]))
  obtain ⟨T4, h4, X4, e4, W4, st4⟩ := putFN X3 hx hZ hown (hw _ (List.mem_of_getElem? (i := 13) rfl)) Via.refl e3 F_red_a0 E_a0 (Or.inl (hw _ (List.mem_of_getElem? (i := 14) rfl))) (hw _ (List.mem_of_getElem? (i := 1) rfl)) (ty := .boolean) (v' := (.int (nar .boolean (1 : Int32)))) (by decide) rfl (fits_nar_bool _) (g := (mkF m 16 #[.val (.ref a0), .val .null, .val .null] [(.int (1 : Int32)), (.ref a0)])) rfl rfl (hb hby d1_16)
  replace E_a0 := E_a0.wr W4
  replace F_key_a0 := F_key_a0.other W4 (Or.inr (slot_ne (Or.inl (hw _ (List.mem_of_getElem? (i := 10) rfl))) (Or.inl (hw _ (List.mem_of_getElem? (i := 14) rfl))) (by decide) (t := (.object "java/lang/Object")) (t' := .boolean) (by decide) (by decide)))
  replace F_value_a0 := F_value_a0.other W4 (Or.inr (slot_ne (Or.inl (hw _ (List.mem_of_getElem? (i := 12) rfl))) (Or.inl (hw _ (List.mem_of_getElem? (i := 14) rfl))) (by decide) (t := (.object "java/lang/Object")) (t' := .boolean) (by decide) (by decide)))
  replace F_left_a0 := F_left_a0.other W4 (Or.inr (slot_ne (Or.inl (hw _ (List.mem_of_getElem? (i := 22) rfl))) (Or.inl (hw _ (List.mem_of_getElem? (i := 14) rfl))) (by decide) (t := (.object "com/example/rowan/rowan/Node")) (t' := .boolean) (by decide) (by decide)))
  replace F_right_a0 := F_right_a0.other W4 (Or.inr (slot_ne (Or.inl (hw _ (List.mem_of_getElem? (i := 20) rfl))) (Or.inl (hw _ (List.mem_of_getElem? (i := 14) rfl))) (by decide) (t := (.object "com/example/rowan/rowan/Node")) (t' := .boolean) (by decide) (by decide)))
  replace F_red_a0 := F_red_a0.same W4
  replace K0 := K0.wr W4 (Or.inl (List.mem_of_getElem? (i := 0) rfl))
  have Zs_W4 : n0 ≤ _ := Nat.le_trans Zs_W3 (Keep.of_wr W4).1
  have N4 := Fr.snoc X4 N3 g_a0
  refine own_via st4 ?_
  show OwnEnds p.tables e below _ (T4.setTop (mkF m 19 #[.val (.ref a0), .val .null, .val .null] []))
  refine own_retV X4 hx Bd.returns hlk (hb hby d1_19) ?_ (by decide) (by decide)
  rw [e4]
  exact ⟨rfl, N4, K0, E_a0, F_left_a0, F_right_a0, F_red_a0⟩
theorem d3_0 : decode prog_16_method_17_code 0 = .ok (.iconst 0, 1) := by decide +kernel
theorem d3_1 : decode prog_16_method_17_code 1 = .ok (.istore_n 1, 1) := by decide +kernel
theorem d3_2 : decode prog_16_method_17_code 2 = .ok (.aload_n 0, 1) := by decide +kernel
theorem d3_3 : decode prog_16_method_17_code 3 = .ok (.astore_n 2, 1) := by decide +kernel
theorem d3_4 : decode prog_16_method_17_code 4 = .ok (.aload_n 2, 1) := by decide +kernel
theorem d3_5 : decode prog_16_method_17_code 5 = .ok (.ifnull 21, 3) := by decide +kernel
theorem d3_8 : decode prog_16_method_17_code 8 = .ok (.aload_n 2, 1) := by decide +kernel
theorem d3_9 : decode prog_16_method_17_code 9 = .ok (.getfield 16, 3) := by decide +kernel
theorem d3_12 : decode prog_16_method_17_code 12 = .ok (.ifCond .ne 6, 3) := by decide +kernel
theorem d3_15 : decode prog_16_method_17_code 15 = .ok (.iinc 1 1, 3) := by decide +kernel
theorem d3_18 : decode prog_16_method_17_code 18 = .ok (.aload_n 2, 1) := by decide +kernel
theorem d3_19 : decode prog_16_method_17_code 19 = .ok (.getfield 20, 3) := by decide +kernel
theorem d3_22 : decode prog_16_method_17_code 22 = .ok (.astore_n 2, 1) := by decide +kernel
theorem d3_23 : decode prog_16_method_17_code 23 = .ok (.goto (-19), 3) := by decide +kernel
theorem d3_26 : decode prog_16_method_17_code 26 = .ok (.iload_n 1, 1) := by decide +kernel
theorem d3_27 : decode prog_16_method_17_code 27 = .ok (.ireturn, 1) := by decide +kernel
theorem ef_3 (m : MethodId) (w0 : Value) (hr_w0 : w0.isRef = true) : entryFrame m #[w0] 3 = mkF m 0 #[.val w0, .unset, .unset] [] := by
  rcases ref_cases hr_w0 with rfl | ⟨w0', rfl⟩ <;> first | (simp [entryFrame, mkF, argsToLocals, Value.category]; done) | rfl
def Q3 (Z : State) (w0 : Value) (xs0 : List Int32) (h0 : Heap) (n0 : Nat) (v : Option Value) (h : Heap) (L : List Loc) : Prop := v = some (.int (own_bh xs0)) ∧ Fr n0 L ∧ h = h0
set_option maxRecDepth 65536 in
set_option maxHeartbeats 40000000 in
theorem rm3 (l : Launch) (Z : State) (aw : Array Value) (hw : ∀ d ∈ tables_1, d.before aw Z = true) (ws : List Jvm.Cond) (w0 : Value) (xs0 : List Int32) (h0 : Heap) (n0 : Nat) (Z0 : n0 ≤ h0.size) (hch0 : OwnCh Z h0 w0 xs0) (hr_w0 : w0.isRef = true) :
    MetFree l (⟨"com/example/rowan/rowan/Node", "blackHeight", "(Lcom/example/rowan/rowan/Node;)I"⟩ : MethodName) (head1 (Jvm.Cond.code (⟨"com/example/rowan/rowan/Node", "blackHeight", "(Lcom/example/rowan/rowan/Node;)I"⟩ : MethodName) prog_16_method_17_code 3 (some .int) :: ws) ({ frames := 0, cells := 0, slots := 0, locals := 0 } : Room)) (fun a U => a = #[w0] ∧ Z.Warmed39 U.vm ∧ U.heap = h0) (fun _ _ _ _ _ => True) (fun _ U o U' => ∃ v L, o = .returned v ∧ Q3 Z w0 xs0 h0 n0 v U'.heap L ∧ FrameEnd U o U' L ({ frames := 0, cells := 0, slots := 0, locals := 0 } : Room).cells ({ frames := 0, cells := 0, slots := 0, locals := 0 } : Room).slots) := by
  refine MetFree.of_bodySF (plainFor_of_name pn_0) hisR ?_
  intro p e s m args below meth c s₁ Bd hml0 hP hK
  obtain ⟨rfl, hZ, hh⟩ := hP
  have hx := Bd.exec
  have hby := Bd.bytes
  have hml : c.maxLocals = 3 := hml0
  have hown : s.vm.findClass "com/example/rowan/rowan/Node" = some m.cls := findClass_of_methodNamed Bd.named
  have hnm := (name_of_methodNamed Bd.named Bd.method).1
  have hlk : meth.locks = false := Bd.notSynchronized
  have X0 : Stand p l e ({ frames := 0, cells := 0, slots := 0, locals := 0 } : Room) s m #[w0] below meth c s₁ [] 0 0 := Stand.of_body Bd
  have e0 : s₁.heap = h0 := by rw [← hh, Bd.state]; rfl
  have N0 := Fr.nil n0
  show OwnEnds p.tables e below (OwnQ s ({ frames := 0, cells := 0, slots := 0, locals := 0 } : Room).cells ({ frames := 0, cells := 0, slots := 0, locals := 0 } : Room).slots (Q3 Z w0 xs0 h0 n0)) (s₁.setTop (entryFrame m #[w0] 3))
  refine own_via (fun t k => castTop (ef_3 m w0 hr_w0) k) ?_
  show OwnEnds p.tables e below _ (s₁.setTop (mkF m 0 #[.val w0, .unset, .unset] []))
  refine own_via (fun t k => XS.iconst X0.here hx rfl (hb hby d3_0) k) ?_
  show OwnEnds p.tables e below _ (s₁.setTop (mkF m 1 #[.val w0, .unset, .unset] [(.int (0 : Int32))]))
  refine own_via (fun t k => XS.istoreN X0.here hx rfl (hb hby d3_1) rfl (l' := #[.val w0, .val (.int (0 : Int32)), .unset]) rfl k) ?_
  show OwnEnds p.tables e below _ (s₁.setTop (mkF m 2 #[.val w0, .val (.int (0 : Int32)), .unset] []))
  refine own_via (fun t k => XS.aloadN X0.here hx rfl (hb hby d3_2) rfl hr_w0 k) ?_
  show OwnEnds p.tables e below _ (s₁.setTop (mkF m 3 #[.val w0, .val (.int (0 : Int32)), .unset] [w0]))
  refine own_via (fun t k => XS.astoreN X0.here hx rfl (hb hby d3_3) rfl hr_w0 (l' := #[.val w0, .val (.int (0 : Int32)), .val w0]) (XS.store1 rfl (Or.inl rfl) (own_cat hr_w0)) k) ?_
  show OwnEnds p.tables e below _ (s₁.setTop (mkF m 4 #[.val w0, .val (.int (0 : Int32)), .val w0] []))
  have loop : ∀ (xs : List Int32) (cv : Value) (acc : Int32) (TL : State), Stand p l e ({ frames := 0, cells := 0, slots := 0, locals := 0 } : Room) s m #[w0] below meth c TL [] 0 0 → TL.heap = h0 → OwnCh Z h0 cv xs → acc + own_bh xs = own_bh xs0 → OwnEnds p.tables e below (OwnQ s ({ frames := 0, cells := 0, slots := 0, locals := 0 } : Room).cells ({ frames := 0, cells := 0, slots := 0, locals := 0 } : Room).slots (Q3 Z w0 xs0 h0 n0)) (TL.setTop (mkF m 4 #[.val w0, .val (.int acc), .val cv] [])) := by
    intro xs
    induction xs with
    | nil =>
      intro cv acc TL XL eL hch hacc
      cases hch
      show OwnEnds p.tables e below _ (TL.setTop (mkF m 4 #[.val w0, .val (.int acc), .val .null] []))
      refine own_via (fun t k => XS.aloadN XL.here hx rfl (hb hby d3_4) rfl rfl k) ?_
      show OwnEnds p.tables e below _ (TL.setTop (mkF m 5 #[.val w0, .val (.int acc), .val .null] [.null]))
      refine own_via (fun t k => XS.ifnullYes XL.here hx rfl (pc0 := 5) (pc' := 26) rfl (hb hby d3_5) rfl (by decide) (by decide) k) ?_
      show OwnEnds p.tables e below _ (TL.setTop (mkF m 26 #[.val w0, .val (.int acc), .val .null] []))
      refine own_via (fun t k => XS.iloadN XL.here hx rfl (hb hby d3_26) rfl k) ?_
      show OwnEnds p.tables e below _ (TL.setTop (mkF m 27 #[.val w0, .val (.int acc), .val .null] [(.int acc)]))
      refine own_retI XL hx Bd.returns hlk (hb hby d3_27) ?_ (by decide) (by decide)
      rw [eL]
      exact ⟨congrArg (fun z => some (Value.int z)) (show acc = own_bh xs0 by rw [← hacc]; exact (Int32.add_zero _).symm), (Fr.nil n0), rfl⟩
    | cons r rs ih =>
      intro cv acc TL XL eL hch hacc
      obtain ⟨ca, cw, rfl, F_r, F_l, hrest⟩ := hch
      have hr_cw := own_chref hrest
      show OwnEnds p.tables e below _ (TL.setTop (mkF m 4 #[.val w0, .val (.int acc), .val (.ref ca)] []))
      refine own_via (fun t k => XS.aloadN XL.here hx rfl (hb hby d3_4) rfl rfl k) ?_
      show OwnEnds p.tables e below _ (TL.setTop (mkF m 5 #[.val w0, .val (.int acc), .val (.ref ca)] [(.ref ca)]))
      refine own_via (fun t k => XS.ifnullNo XL.here hx rfl (hb hby d3_5) rfl k) ?_
      show OwnEnds p.tables e below _ (TL.setTop (mkF m 8 #[.val w0, .val (.int acc), .val (.ref ca)] []))
      refine own_via (fun t k => XS.aloadN XL.here hx rfl (hb hby d3_8) rfl rfl k) ?_
      show OwnEnds p.tables e below _ (TL.setTop (mkF m 9 #[.val w0, .val (.int acc), .val (.ref ca)] [(.ref ca)]))
      obtain ⟨T1, X1, e1, st1⟩ := getF XL hx hZ hown (host := "") (Or.inl (hw _ (List.mem_of_getElem? (i := 13) rfl))) Via.refl eL F_r (g := (mkF m 9 #[.val w0, .val (.int acc), .val (.ref ca)] [(.ref ca)])) rfl rfl (hb hby d3_9)
      refine own_via st1 ?_
      show OwnEnds p.tables e below _ (T1.setTop (mkF m 12 #[.val w0, .val (.int acc), .val (.ref ca)] [(.int r)]))
      by_cases hc12_2 : r = (0 : Int32)
      · skip
        refine own_via (fun t k => XS.ifNo X1.here hx rfl (hb hby d3_12) rfl ((if0 _ _).trans (teq hc12_2).2) k) ?_
        show OwnEnds p.tables e below _ (T1.setTop (mkF m 15 #[.val w0, .val (.int acc), .val (.ref ca)] []))
        refine own_via (fun t k => XS.iinc X1.here hx rfl (hb hby d3_15) rfl (l' := #[.val w0, .val (.int (acc + (1 : Int32))), .val (.ref ca)]) rfl k) ?_
        show OwnEnds p.tables e below _ (T1.setTop (mkF m 18 #[.val w0, .val (.int (acc + (1 : Int32))), .val (.ref ca)] []))
        refine own_via (fun t k => XS.aloadN X1.here hx rfl (hb hby d3_18) rfl rfl k) ?_
        show OwnEnds p.tables e below _ (T1.setTop (mkF m 19 #[.val w0, .val (.int (acc + (1 : Int32))), .val (.ref ca)] [(.ref ca)]))
        obtain ⟨T3, X3, e3, st3⟩ := getF X1 hx hZ hown (host := "") (Or.inl (hw _ (List.mem_of_getElem? (i := 21) rfl))) Via.refl e1 F_l (g := (mkF m 19 #[.val w0, .val (.int (acc + (1 : Int32))), .val (.ref ca)] [(.ref ca)])) rfl rfl (hb hby d3_19)
        refine own_via st3 ?_
        show OwnEnds p.tables e below _ (T3.setTop (mkF m 22 #[.val w0, .val (.int (acc + (1 : Int32))), .val (.ref ca)] [cw]))
        refine own_via (fun t k => XS.astoreN X3.here hx rfl (hb hby d3_22) rfl hr_cw (l' := #[.val w0, .val (.int (acc + (1 : Int32))), .val cw]) (XS.store1 rfl (Or.inr ⟨_, rfl, rfl⟩) (own_cat hr_cw)) k) ?_
        show OwnEnds p.tables e below _ (T3.setTop (mkF m 23 #[.val w0, .val (.int (acc + (1 : Int32))), .val cw] []))
        refine own_via (fun t k => XS.goto X3.here hx rfl (pc0 := 23) (pc' := 4) rfl (hb hby d3_23) (by decide) (by decide) k) ?_
        show OwnEnds p.tables e below _ (T3.setTop (mkF m 4 #[.val w0, .val (.int (acc + (1 : Int32))), .val cw] []))
        exact ih _ _ _ X3 e3 hrest (own_up1 (c := 0) hacc hc12_2)
      · skip
        refine own_via (fun t k => XS.ifYes X1.here hx rfl (pc0 := 12) (pc' := 18) rfl (hb hby d3_12) rfl ((if0 _ _).trans (feq hc12_2).2) (by decide) (by decide) k) ?_
        show OwnEnds p.tables e below _ (T1.setTop (mkF m 18 #[.val w0, .val (.int acc), .val (.ref ca)] []))
        refine own_via (fun t k => XS.aloadN X1.here hx rfl (hb hby d3_18) rfl rfl k) ?_
        show OwnEnds p.tables e below _ (T1.setTop (mkF m 19 #[.val w0, .val (.int acc), .val (.ref ca)] [(.ref ca)]))
        obtain ⟨T4, X4, e4, st4⟩ := getF X1 hx hZ hown (host := "") (Or.inl (hw _ (List.mem_of_getElem? (i := 21) rfl))) Via.refl e1 F_l (g := (mkF m 19 #[.val w0, .val (.int acc), .val (.ref ca)] [(.ref ca)])) rfl rfl (hb hby d3_19)
        refine own_via st4 ?_
        show OwnEnds p.tables e below _ (T4.setTop (mkF m 22 #[.val w0, .val (.int acc), .val (.ref ca)] [cw]))
        refine own_via (fun t k => XS.astoreN X4.here hx rfl (hb hby d3_22) rfl hr_cw (l' := #[.val w0, .val (.int acc), .val cw]) (XS.store1 rfl (Or.inr ⟨_, rfl, rfl⟩) (own_cat hr_cw)) k) ?_
        show OwnEnds p.tables e below _ (T4.setTop (mkF m 23 #[.val w0, .val (.int acc), .val cw] []))
        refine own_via (fun t k => XS.goto X4.here hx rfl (pc0 := 23) (pc' := 4) rfl (hb hby d3_23) (by decide) (by decide) k) ?_
        show OwnEnds p.tables e below _ (T4.setTop (mkF m 4 #[.val w0, .val (.int acc), .val cw] []))
        exact ih _ _ _ X4 e4 hrest (own_up0 (c := 0) hacc hc12_2)
  exact loop xs0 w0 0 _ X0 e0 hch0 (Int32.zero_add _)
theorem pn_1 : plainName "com/example/rowan/rowan/NodeBlackHeightPinLaw" = true := by first | (simp [plainName, overriddenIn]; done) | decide +kernel
theorem ef_0 (m : MethodId) (p0 : Int32) (p1 : Int32) (p2 : Int32) : entryFrame m #[(.int p0), (.int p1), (.int p2)] maxLocals = mkF m 0 #[.val (.int p0), .val (.int p1), .val (.int p2), .unset, .unset, .unset, .unset, .unset, .unset, .unset, .unset, .unset, .unset, .unset, .unset, .unset, .unset] [] := by first | (simp [entryFrame, mkF, argsToLocals, Value.category, maxLocals]; done) | rfl
def Q0 (Z : State) (p0 : Int32) (p1 : Int32) (p2 : Int32) (h0 : Heap) (n0 : Nat) (v : Option Value) (h : Heap) (L : List Loc) : Prop := v = some (.int 1) ∧ Fr n0 L
theorem pd_0 : parseMethodDescriptor "(Ljava/lang/Object;Ljava/lang/Object;)V" = some ⟨[(.object "java/lang/Object"), (.object "java/lang/Object")], none⟩ := by decide +kernel
theorem pd_1 : parseMethodDescriptor "(Lcom/example/rowan/rowan/Node;)I" = some ⟨[(.object "com/example/rowan/rowan/Node")], some .int⟩ := by decide +kernel
set_option maxRecDepth 65536 in
set_option maxHeartbeats 40000000 in
theorem rm0 (l : Launch) (Z : State) (aw : Array Value) (hw : ∀ d ∈ tables_1, d.before aw Z = true) (ws : List Jvm.Cond) (p0 : Int32) (p1 : Int32) (p2 : Int32) (h0 : Heap) (n0 : Nat) (Z0 : n0 ≤ h0.size) :
    MetFree l x (head1 (Jvm.Cond.code x code maxLocals ret :: ws) room_1) (fun a U => a = #[(.int p0), (.int p1), (.int p2)] ∧ Z.Warmed39 U.vm ∧ U.heap = h0) (fun _ _ _ _ _ => True) (fun _ U o U' => ∃ v L, o = .returned v ∧ Q0 Z p0 p1 p2 h0 n0 v U'.heap L ∧ FrameEnd U o U' L 24 192) := by
  refine MetFree.of_bodySF (plainFor_of_name pn_1) hisR ?_
  intro p e s m args below meth c s₁ Bd hml0 hP hK
  obtain ⟨rfl, hZ, hh⟩ := hP
  have hx := Bd.exec
  have hby := Bd.bytes
  have hml : c.maxLocals = 17 := hml0
  have hown : s.vm.findClass "com/example/rowan/rowan/NodeBlackHeightPinLaw" = some m.cls := findClass_of_methodNamed Bd.named
  have hnm := (name_of_methodNamed Bd.named Bd.method).1
  have hlk : meth.locks = false := Bd.notSynchronized
  have X0 : Stand p l e room_1 s m #[(.int p0), (.int p1), (.int p2)] below meth c s₁ [] 0 0 := Stand.of_body Bd
  have e0 : s₁.heap = h0 := by rw [← hh, Bd.state]; rfl
  have N0 := Fr.nil n0
  show OwnEnds p.tables e below (OwnQ s 24 192 (Q0 Z p0 p1 p2 h0 n0)) (s₁.setTop (entryFrame m #[(.int p0), (.int p1), (.int p2)] maxLocals))
  refine own_via (fun t k => castTop (ef_0 m p0 p1 p2) k) ?_
  show OwnEnds p.tables e below _ (s₁.setTop (mkF m 0 #[.val (.int p0), .val (.int p1), .val (.int p2), .unset, .unset, .unset, .unset, .unset, .unset, .unset, .unset, .unset, .unset, .unset, .unset, .unset, .unset] []))
  refine own_via (fun t k => XS.iloadN X0.here hx rfl (hb hby at_0) rfl k) ?_
  show OwnEnds p.tables e below _ (s₁.setTop (mkF m 1 #[.val (.int p0), .val (.int p1), .val (.int p2), .unset, .unset, .unset, .unset, .unset, .unset, .unset, .unset, .unset, .unset, .unset, .unset, .unset, .unset] [(.int p0)]))
  refine own_via (fun t k => XS.bipush X0.here hx rfl (hb hby at_1) k) ?_
  show OwnEnds p.tables e below _ (s₁.setTop (mkF m 3 #[.val (.int p0), .val (.int p1), .val (.int p2), .unset, .unset, .unset, .unset, .unset, .unset, .unset, .unset, .unset, .unset, .unset, .unset, .unset, .unset] [(.int (7 : Int32)), (.int p0)]))
  refine own_via (fun t k => XS.iand X0.here hx rfl (hb hby at_3) rfl k) ?_
  show OwnEnds p.tables e below _ (s₁.setTop (mkF m 4 #[.val (.int p0), .val (.int p1), .val (.int p2), .unset, .unset, .unset, .unset, .unset, .unset, .unset, .unset, .unset, .unset, .unset, .unset, .unset, .unset] [(.int (p0 &&& (7 : Int32)))]))
  refine own_via (fun t k => XS.iconst X0.here hx rfl (hb hby at_4) k) ?_
  show OwnEnds p.tables e below _ (s₁.setTop (mkF m 5 #[.val (.int p0), .val (.int p1), .val (.int p2), .unset, .unset, .unset, .unset, .unset, .unset, .unset, .unset, .unset, .unset, .unset, .unset, .unset, .unset] [(.int (5 : Int32)), (.int (p0 &&& (7 : Int32)))]))
  refine own_via (fun t k => Jvm.RoadKit.iremM X0 hx rfl (hb hby at_5) rfl (by decide) k) ?_
  show OwnEnds p.tables e below _ (s₁.setTop (mkF m 6 #[.val (.int p0), .val (.int p1), .val (.int p2), .unset, .unset, .unset, .unset, .unset, .unset, .unset, .unset, .unset, .unset, .unset, .unset, .unset, .unset] [(.int ((p0 &&& (7 : Int32)) % (5 : Int32)))]))
  obtain ⟨n, h_n⟩ : ∃ z, z = ((p0 &&& (7 : Int32)) % (5 : Int32)) := ⟨_, rfl⟩
  rw [← h_n]
  refine own_via (fun t k => XS.istoreN X0.here hx rfl (hb hby at_6) rfl (l' := #[.val (.int p0), .val (.int p1), .val (.int p2), .val (.int n), .unset, .unset, .unset, .unset, .unset, .unset, .unset, .unset, .unset, .unset, .unset, .unset, .unset]) rfl k) ?_
  show OwnEnds p.tables e below _ (s₁.setTop (mkF m 7 #[.val (.int p0), .val (.int p1), .val (.int p2), .val (.int n), .unset, .unset, .unset, .unset, .unset, .unset, .unset, .unset, .unset, .unset, .unset, .unset, .unset] []))
  refine own_via (fun t k => XS.iloadN X0.here hx rfl (hb hby at_7) rfl k) ?_
  show OwnEnds p.tables e below _ (s₁.setTop (mkF m 8 #[.val (.int p0), .val (.int p1), .val (.int p2), .val (.int n), .unset, .unset, .unset, .unset, .unset, .unset, .unset, .unset, .unset, .unset, .unset, .unset, .unset] [(.int p1)]))
  refine own_via (fun t k => XS.iconst X0.here hx rfl (hb hby at_8) k) ?_
  show OwnEnds p.tables e below _ (s₁.setTop (mkF m 9 #[.val (.int p0), .val (.int p1), .val (.int p2), .val (.int n), .unset, .unset, .unset, .unset, .unset, .unset, .unset, .unset, .unset, .unset, .unset, .unset, .unset] [(.int (1 : Int32)), (.int p1)]))
  refine own_via (fun t k => XS.iand X0.here hx rfl (hb hby at_9) rfl k) ?_
  show OwnEnds p.tables e below _ (s₁.setTop (mkF m 10 #[.val (.int p0), .val (.int p1), .val (.int p2), .val (.int n), .unset, .unset, .unset, .unset, .unset, .unset, .unset, .unset, .unset, .unset, .unset, .unset, .unset] [(.int (p1 &&& (1 : Int32)))]))
  have J18_1 : ∀ r0 : Int32, r0 = (if (p1 &&& (1 : Int32)) = (0 : Int32) then (0 : Int32) else (1 : Int32)) → OwnEnds p.tables e below (OwnQ s 24 192 (Q0 Z p0 p1 p2 h0 n0)) (s₁.setTop (mkF m 18 #[.val (.int p0), .val (.int p1), .val (.int p2), .val (.int n), .unset, .unset, .unset, .unset, .unset, .unset, .unset, .unset, .unset, .unset, .unset, .unset, .unset] [(.int r0)])) := by
    intro r0 h_r0
    refine own_via (fun t k => XS.istore X0.here hx rfl (hb hby at_18) rfl (l' := #[.val (.int p0), .val (.int p1), .val (.int p2), .val (.int n), .val (.int r0), .unset, .unset, .unset, .unset, .unset, .unset, .unset, .unset, .unset, .unset, .unset, .unset]) rfl k) ?_
    show OwnEnds p.tables e below _ (s₁.setTop (mkF m 20 #[.val (.int p0), .val (.int p1), .val (.int p2), .val (.int n), .val (.int r0), .unset, .unset, .unset, .unset, .unset, .unset, .unset, .unset, .unset, .unset, .unset, .unset] []))
    refine own_via (fun t k => XS.iloadN X0.here hx rfl (hb hby at_20) rfl k) ?_
    show OwnEnds p.tables e below _ (s₁.setTop (mkF m 21 #[.val (.int p0), .val (.int p1), .val (.int p2), .val (.int n), .val (.int r0), .unset, .unset, .unset, .unset, .unset, .unset, .unset, .unset, .unset, .unset, .unset, .unset] [(.int p1)]))
    refine own_via (fun t k => XS.iconst X0.here hx rfl (hb hby at_21) k) ?_
    show OwnEnds p.tables e below _ (s₁.setTop (mkF m 22 #[.val (.int p0), .val (.int p1), .val (.int p2), .val (.int n), .val (.int r0), .unset, .unset, .unset, .unset, .unset, .unset, .unset, .unset, .unset, .unset, .unset, .unset] [(.int (2 : Int32)), (.int p1)]))
    refine own_via (fun t k => XS.iand X0.here hx rfl (hb hby at_22) rfl k) ?_
    show OwnEnds p.tables e below _ (s₁.setTop (mkF m 23 #[.val (.int p0), .val (.int p1), .val (.int p2), .val (.int n), .val (.int r0), .unset, .unset, .unset, .unset, .unset, .unset, .unset, .unset, .unset, .unset, .unset, .unset] [(.int (p1 &&& (2 : Int32)))]))
    have J31_2 : ∀ r1 : Int32, r1 = (if (p1 &&& (2 : Int32)) = (0 : Int32) then (0 : Int32) else (1 : Int32)) → OwnEnds p.tables e below (OwnQ s 24 192 (Q0 Z p0 p1 p2 h0 n0)) (s₁.setTop (mkF m 31 #[.val (.int p0), .val (.int p1), .val (.int p2), .val (.int n), .val (.int r0), .unset, .unset, .unset, .unset, .unset, .unset, .unset, .unset, .unset, .unset, .unset, .unset] [(.int r1)])) := by
      intro r1 h_r1
      refine own_via (fun t k => XS.istore X0.here hx rfl (hb hby at_31) rfl (l' := #[.val (.int p0), .val (.int p1), .val (.int p2), .val (.int n), .val (.int r0), .val (.int r1), .unset, .unset, .unset, .unset, .unset, .unset, .unset, .unset, .unset, .unset, .unset]) rfl k) ?_
      show OwnEnds p.tables e below _ (s₁.setTop (mkF m 33 #[.val (.int p0), .val (.int p1), .val (.int p2), .val (.int n), .val (.int r0), .val (.int r1), .unset, .unset, .unset, .unset, .unset, .unset, .unset, .unset, .unset, .unset, .unset] []))
      refine own_via (fun t k => XS.iloadN X0.here hx rfl (hb hby at_33) rfl k) ?_
      show OwnEnds p.tables e below _ (s₁.setTop (mkF m 34 #[.val (.int p0), .val (.int p1), .val (.int p2), .val (.int n), .val (.int r0), .val (.int r1), .unset, .unset, .unset, .unset, .unset, .unset, .unset, .unset, .unset, .unset, .unset] [(.int p1)]))
      refine own_via (fun t k => XS.iconst X0.here hx rfl (hb hby at_34) k) ?_
      show OwnEnds p.tables e below _ (s₁.setTop (mkF m 35 #[.val (.int p0), .val (.int p1), .val (.int p2), .val (.int n), .val (.int r0), .val (.int r1), .unset, .unset, .unset, .unset, .unset, .unset, .unset, .unset, .unset, .unset, .unset] [(.int (4 : Int32)), (.int p1)]))
      refine own_via (fun t k => XS.iand X0.here hx rfl (hb hby at_35) rfl k) ?_
      show OwnEnds p.tables e below _ (s₁.setTop (mkF m 36 #[.val (.int p0), .val (.int p1), .val (.int p2), .val (.int n), .val (.int r0), .val (.int r1), .unset, .unset, .unset, .unset, .unset, .unset, .unset, .unset, .unset, .unset, .unset] [(.int (p1 &&& (4 : Int32)))]))
      have J44_3 : ∀ r2 : Int32, r2 = (if (p1 &&& (4 : Int32)) = (0 : Int32) then (0 : Int32) else (1 : Int32)) → OwnEnds p.tables e below (OwnQ s 24 192 (Q0 Z p0 p1 p2 h0 n0)) (s₁.setTop (mkF m 44 #[.val (.int p0), .val (.int p1), .val (.int p2), .val (.int n), .val (.int r0), .val (.int r1), .unset, .unset, .unset, .unset, .unset, .unset, .unset, .unset, .unset, .unset, .unset] [(.int r2)])) := by
        intro r2 h_r2
        refine own_via (fun t k => XS.istore X0.here hx rfl (hb hby at_44) rfl (l' := #[.val (.int p0), .val (.int p1), .val (.int p2), .val (.int n), .val (.int r0), .val (.int r1), .val (.int r2), .unset, .unset, .unset, .unset, .unset, .unset, .unset, .unset, .unset, .unset]) rfl k) ?_
        show OwnEnds p.tables e below _ (s₁.setTop (mkF m 46 #[.val (.int p0), .val (.int p1), .val (.int p2), .val (.int n), .val (.int r0), .val (.int r1), .val (.int r2), .unset, .unset, .unset, .unset, .unset, .unset, .unset, .unset, .unset, .unset] []))
        refine own_via (fun t k => XS.iloadN X0.here hx rfl (hb hby at_46) rfl k) ?_
        show OwnEnds p.tables e below _ (s₁.setTop (mkF m 47 #[.val (.int p0), .val (.int p1), .val (.int p2), .val (.int n), .val (.int r0), .val (.int r1), .val (.int r2), .unset, .unset, .unset, .unset, .unset, .unset, .unset, .unset, .unset, .unset] [(.int p1)]))
        refine own_via (fun t k => XS.bipush X0.here hx rfl (hb hby at_47) k) ?_
        show OwnEnds p.tables e below _ (s₁.setTop (mkF m 49 #[.val (.int p0), .val (.int p1), .val (.int p2), .val (.int n), .val (.int r0), .val (.int r1), .val (.int r2), .unset, .unset, .unset, .unset, .unset, .unset, .unset, .unset, .unset, .unset] [(.int (8 : Int32)), (.int p1)]))
        refine own_via (fun t k => XS.iand X0.here hx rfl (hb hby at_49) rfl k) ?_
        show OwnEnds p.tables e below _ (s₁.setTop (mkF m 50 #[.val (.int p0), .val (.int p1), .val (.int p2), .val (.int n), .val (.int r0), .val (.int r1), .val (.int r2), .unset, .unset, .unset, .unset, .unset, .unset, .unset, .unset, .unset, .unset] [(.int (p1 &&& (8 : Int32)))]))
        have J58_4 : ∀ r3 : Int32, r3 = (if (p1 &&& (8 : Int32)) = (0 : Int32) then (0 : Int32) else (1 : Int32)) → OwnEnds p.tables e below (OwnQ s 24 192 (Q0 Z p0 p1 p2 h0 n0)) (s₁.setTop (mkF m 58 #[.val (.int p0), .val (.int p1), .val (.int p2), .val (.int n), .val (.int r0), .val (.int r1), .val (.int r2), .unset, .unset, .unset, .unset, .unset, .unset, .unset, .unset, .unset, .unset] [(.int r3)])) := by
          intro r3 h_r3
          refine own_via (fun t k => XS.istore X0.here hx rfl (hb hby at_58) rfl (l' := #[.val (.int p0), .val (.int p1), .val (.int p2), .val (.int n), .val (.int r0), .val (.int r1), .val (.int r2), .val (.int r3), .unset, .unset, .unset, .unset, .unset, .unset, .unset, .unset, .unset]) rfl k) ?_
          show OwnEnds p.tables e below _ (s₁.setTop (mkF m 60 #[.val (.int p0), .val (.int p1), .val (.int p2), .val (.int n), .val (.int r0), .val (.int r1), .val (.int r2), .val (.int r3), .unset, .unset, .unset, .unset, .unset, .unset, .unset, .unset, .unset] []))
          refine own_via (fun t k => XS.iloadN X0.here hx rfl (hb hby at_60) rfl k) ?_
          show OwnEnds p.tables e below _ (s₁.setTop (mkF m 61 #[.val (.int p0), .val (.int p1), .val (.int p2), .val (.int n), .val (.int r0), .val (.int r1), .val (.int r2), .val (.int r3), .unset, .unset, .unset, .unset, .unset, .unset, .unset, .unset, .unset] [(.int p2)]))
          refine own_via (fun t k => XS.iconst X0.here hx rfl (hb hby at_61) k) ?_
          show OwnEnds p.tables e below _ (s₁.setTop (mkF m 62 #[.val (.int p0), .val (.int p1), .val (.int p2), .val (.int n), .val (.int r0), .val (.int r1), .val (.int r2), .val (.int r3), .unset, .unset, .unset, .unset, .unset, .unset, .unset, .unset, .unset] [(.int (1 : Int32)), (.int p2)]))
          refine own_via (fun t k => XS.iand X0.here hx rfl (hb hby at_62) rfl k) ?_
          show OwnEnds p.tables e below _ (s₁.setTop (mkF m 63 #[.val (.int p0), .val (.int p1), .val (.int p2), .val (.int n), .val (.int r0), .val (.int r1), .val (.int r2), .val (.int r3), .unset, .unset, .unset, .unset, .unset, .unset, .unset, .unset, .unset] [(.int (p2 &&& (1 : Int32)))]))
          have J71_5 : ∀ hg : Int32, hg = (if (p2 &&& (1 : Int32)) = (0 : Int32) then (0 : Int32) else (1 : Int32)) → OwnEnds p.tables e below (OwnQ s 24 192 (Q0 Z p0 p1 p2 h0 n0)) (s₁.setTop (mkF m 71 #[.val (.int p0), .val (.int p1), .val (.int p2), .val (.int n), .val (.int r0), .val (.int r1), .val (.int r2), .val (.int r3), .unset, .unset, .unset, .unset, .unset, .unset, .unset, .unset, .unset] [(.int hg)])) := by
            intro hg h_hg
            refine own_via (fun t k => XS.istore X0.here hx rfl (hb hby at_71) rfl (l' := #[.val (.int p0), .val (.int p1), .val (.int p2), .val (.int n), .val (.int r0), .val (.int r1), .val (.int r2), .val (.int r3), .val (.int hg), .unset, .unset, .unset, .unset, .unset, .unset, .unset, .unset]) rfl k) ?_
            show OwnEnds p.tables e below _ (s₁.setTop (mkF m 73 #[.val (.int p0), .val (.int p1), .val (.int p2), .val (.int n), .val (.int r0), .val (.int r1), .val (.int r2), .val (.int r3), .val (.int hg), .unset, .unset, .unset, .unset, .unset, .unset, .unset, .unset] []))
            refine own_via (fun t k => XS.iloadN X0.here hx rfl (hb hby at_73) rfl k) ?_
            show OwnEnds p.tables e below _ (s₁.setTop (mkF m 74 #[.val (.int p0), .val (.int p1), .val (.int p2), .val (.int n), .val (.int r0), .val (.int r1), .val (.int r2), .val (.int r3), .val (.int hg), .unset, .unset, .unset, .unset, .unset, .unset, .unset, .unset] [(.int p2)]))
            refine own_via (fun t k => XS.iconst X0.here hx rfl (hb hby at_74) k) ?_
            show OwnEnds p.tables e below _ (s₁.setTop (mkF m 75 #[.val (.int p0), .val (.int p1), .val (.int p2), .val (.int n), .val (.int r0), .val (.int r1), .val (.int r2), .val (.int r3), .val (.int hg), .unset, .unset, .unset, .unset, .unset, .unset, .unset, .unset] [(.int (2 : Int32)), (.int p2)]))
            refine own_via (fun t k => XS.iand X0.here hx rfl (hb hby at_75) rfl k) ?_
            show OwnEnds p.tables e below _ (s₁.setTop (mkF m 76 #[.val (.int p0), .val (.int p1), .val (.int p2), .val (.int n), .val (.int r0), .val (.int r1), .val (.int r2), .val (.int r3), .val (.int hg), .unset, .unset, .unset, .unset, .unset, .unset, .unset, .unset] [(.int (p2 &&& (2 : Int32)))]))
            have J84_6 : ∀ dr : Int32, dr = (if (p2 &&& (2 : Int32)) = (0 : Int32) then (0 : Int32) else (1 : Int32)) → OwnEnds p.tables e below (OwnQ s 24 192 (Q0 Z p0 p1 p2 h0 n0)) (s₁.setTop (mkF m 84 #[.val (.int p0), .val (.int p1), .val (.int p2), .val (.int n), .val (.int r0), .val (.int r1), .val (.int r2), .val (.int r3), .val (.int hg), .unset, .unset, .unset, .unset, .unset, .unset, .unset, .unset] [(.int dr)])) := by
              intro dr h_dr
              refine own_via (fun t k => XS.istore X0.here hx rfl (hb hby at_84) rfl (l' := #[.val (.int p0), .val (.int p1), .val (.int p2), .val (.int n), .val (.int r0), .val (.int r1), .val (.int r2), .val (.int r3), .val (.int hg), .val (.int dr), .unset, .unset, .unset, .unset, .unset, .unset, .unset]) rfl k) ?_
              show OwnEnds p.tables e below _ (s₁.setTop (mkF m 86 #[.val (.int p0), .val (.int p1), .val (.int p2), .val (.int n), .val (.int r0), .val (.int r1), .val (.int r2), .val (.int r3), .val (.int hg), .val (.int dr), .unset, .unset, .unset, .unset, .unset, .unset, .unset] []))
              obtain ⟨T7, h7, X7, e7, E7, A7, D7, -, st7⟩ := newO X0 hx hZ hown (hw _ (List.mem_of_getElem? (i := 0) rfl)) (hw _ (List.mem_of_getElem? (i := 1) rfl)) (hw _ (List.mem_of_getElem? (i := 2) rfl)) e0 (g := (mkF m 86 #[.val (.int p0), .val (.int p1), .val (.int p2), .val (.int n), .val (.int r0), .val (.int r1), .val (.int r2), .val (.int r3), .val (.int hg), .val (.int dr), .unset, .unset, .unset, .unset, .unset, .unset, .unset] [])) rfl (hb hby at_86) (by decide) (by decide)
              obtain ⟨b7, g7⟩ : ∃ z, z = h0.size := ⟨_, rfl⟩
              rw [← g7] at A7 D7 st7
              have g_b7 : n0 ≤ b7 := Nat.le_trans Z0 (Nat.le_of_eq g7.symm)
              have Zs_7 : n0 ≤ _ := Nat.le_trans Z0 E7.1
              have E_b7 := A7
              have F_key_b7 : Fld Z h7 b7 "com/example/rowan/rowan/Node" "key" "Ljava/lang/Object;" .null := D7 (Or.inl (hw _ (List.mem_of_getElem? (i := 10) rfl))) (ty := (.object "java/lang/Object")) (by decide)
              have F_value_b7 : Fld Z h7 b7 "com/example/rowan/rowan/Node" "value" "Ljava/lang/Object;" .null := D7 (Or.inl (hw _ (List.mem_of_getElem? (i := 12) rfl))) (ty := (.object "java/lang/Object")) (by decide)
              have F_red_b7 : Fld Z h7 b7 "com/example/rowan/rowan/Node" "red" "Z" (.int (0 : Int32)) := D7 (Or.inl (hw _ (List.mem_of_getElem? (i := 14) rfl))) (ty := .boolean) (by decide)
              have F_right_b7 : Fld Z h7 b7 "com/example/rowan/rowan/Node" "right" "Lcom/example/rowan/rowan/Node;" .null := D7 (Or.inl (hw _ (List.mem_of_getElem? (i := 20) rfl))) (ty := (.object "com/example/rowan/rowan/Node")) (by decide)
              have F_left_b7 : Fld Z h7 b7 "com/example/rowan/rowan/Node" "left" "Lcom/example/rowan/rowan/Node;" .null := D7 (Or.inl (hw _ (List.mem_of_getElem? (i := 22) rfl))) (ty := (.object "com/example/rowan/rowan/Node")) (by decide)
              refine own_via st7 ?_
              show OwnEnds p.tables e below _ (T7.setTop (mkF m 89 #[.val (.int p0), .val (.int p1), .val (.int p2), .val (.int n), .val (.int r0), .val (.int r1), .val (.int r2), .val (.int r3), .val (.int hg), .val (.int dr), .unset, .unset, .unset, .unset, .unset, .unset, .unset] [(.ref b7)]))
              refine own_via (fun t k => XS.dup X7.here hx rfl (hb hby at_89) rfl rfl k) ?_
              show OwnEnds p.tables e below _ (T7.setTop (mkF m 90 #[.val (.int p0), .val (.int p1), .val (.int p2), .val (.int n), .val (.int r0), .val (.int r1), .val (.int r2), .val (.int r3), .val (.int hg), .val (.int dr), .unset, .unset, .unset, .unset, .unset, .unset, .unset] [(.ref b7), (.ref b7)]))
              refine own_via (fun t k => XS.aconstNull X7.here hx rfl (hb hby at_90) k) ?_
              show OwnEnds p.tables e below _ (T7.setTop (mkF m 91 #[.val (.int p0), .val (.int p1), .val (.int p2), .val (.int n), .val (.int r0), .val (.int r1), .val (.int r2), .val (.int r3), .val (.int hg), .val (.int dr), .unset, .unset, .unset, .unset, .unset, .unset, .unset] [.null, (.ref b7), (.ref b7)]))
              refine own_via (fun t k => XS.aconstNull X7.here hx rfl (hb hby at_91) k) ?_
              show OwnEnds p.tables e below _ (T7.setTop (mkF m 92 #[.val (.int p0), .val (.int p1), .val (.int p2), .val (.int n), .val (.int r0), .val (.int r1), .val (.int r2), .val (.int r3), .val (.int hg), .val (.int dr), .unset, .unset, .unset, .unset, .unset, .unset, .unset] [.null, .null, (.ref b7), (.ref b7)]))
              obtain ⟨_, _, ⟨T8, L8, k8, n8⟩, -, X8, ⟨Lc8, hQ8, l8, y8, z8⟩, st8⟩ := X7.specialBack hx (y := (⟨"com/example/rowan/rowan/Node", "<init>", "(Ljava/lang/Object;Ljava/lang/Object;)V"⟩ : MethodName)) rfl hown (mvT hZ (hw _ (List.mem_of_getElem? (i := 3) rfl))) (mvT hZ (hw _ (List.mem_of_getElem? (i := 4) rfl))) (mvT hZ (hw _ (List.mem_of_getElem? (i := 5) rfl))) (by decide) (backOf (W := 1) (rm1 l Z aw hw [] b7 h7 n0 Zs_7 E_b7 F_key_b7 F_value_b7 F_left_b7 F_right_b7 F_red_b7 g_b7) hZ (hw _ (List.mem_of_getElem? (i := 5) rfl)) (hw _ (List.mem_of_getElem? (i := 2) rfl)) (by decide) (by decide)) (g := (mkF m 92 #[.val (.int p0), .val (.int p1), .val (.int p2), .val (.int n), .val (.int r0), .val (.int r1), .val (.int r2), .val (.int r3), .val (.int hg), .val (.int dr), .unset, .unset, .unset, .unset, .unset, .unset, .unset] [.null, .null, (.ref b7), (.ref b7)])) rfl (by rw [hml]; rfl) (Steps.refl _) (a := b7) (argsL := [.null, .null]) (rest := [(.ref b7)]) (lenOf pd_0 rfl) rfl (by show 2 * 0 + _ ≤ _; exact Nat.le_of_eq rfl) (hb hby at_92) (fun _ _ => ⟨rfl, e7, (by decide : 1 + 0 ≤ _), (by decide : 7 + 0 ≤ _)⟩)
              dsimp only [Pt.U, Pt.locs, Pt.cells, Pt.slots] at X8 l8 y8 z8 st8 hQ8
              subst l8 y8 z8
              obtain ⟨h8, e8⟩ : ∃ z, T8.heap = z := ⟨_, rfl⟩
              rw [e8] at hQ8
              obtain ⟨rfl, Nq8, K8, Y8_0, Y8_1, Y8_2, Y8_3⟩ := hQ8
              have N8 := Fr.app N0 Nq8
              replace E_b7 := E_b7.keep K8
              have F_left_b7 : Fld Z h8 b7 "com/example/rowan/rowan/Node" "left" "Lcom/example/rowan/rowan/Node;" .null := Y8_1
              have F_right_b7 : Fld Z h8 b7 "com/example/rowan/rowan/Node" "right" "Lcom/example/rowan/rowan/Node;" .null := Y8_2
              have F_red_b7 : Fld Z h8 b7 "com/example/rowan/rowan/Node" "red" "Z" (.int (1 : Int32)) := Y8_3
              have Zs_8 : n0 ≤ _ := Nat.le_trans Zs_7 K8.1
              refine own_of st8 ?_
              show OwnEnds p.tables e below _ (T8.setTop (mkF m 95 #[.val (.int p0), .val (.int p1), .val (.int p2), .val (.int n), .val (.int r0), .val (.int r1), .val (.int r2), .val (.int r3), .val (.int hg), .val (.int dr), .unset, .unset, .unset, .unset, .unset, .unset, .unset] [(.ref b7)]))
              refine own_via (fun t k => XS.astore X8.here hx rfl (hb hby at_95) rfl rfl (l' := #[.val (.int p0), .val (.int p1), .val (.int p2), .val (.int n), .val (.int r0), .val (.int r1), .val (.int r2), .val (.int r3), .val (.int hg), .val (.int dr), .val (.ref b7), .unset, .unset, .unset, .unset, .unset, .unset]) rfl k) ?_
              show OwnEnds p.tables e below _ (T8.setTop (mkF m 97 #[.val (.int p0), .val (.int p1), .val (.int p2), .val (.int n), .val (.int r0), .val (.int r1), .val (.int r2), .val (.int r3), .val (.int hg), .val (.int dr), .val (.ref b7), .unset, .unset, .unset, .unset, .unset, .unset] []))
              obtain ⟨T9, h9, X9, e9, E9, A9, D9, -, st9⟩ := newO X8 hx hZ hown (hw _ (List.mem_of_getElem? (i := 0) rfl)) (hw _ (List.mem_of_getElem? (i := 1) rfl)) (hw _ (List.mem_of_getElem? (i := 2) rfl)) e8 (g := (mkF m 97 #[.val (.int p0), .val (.int p1), .val (.int p2), .val (.int n), .val (.int r0), .val (.int r1), .val (.int r2), .val (.int r3), .val (.int hg), .val (.int dr), .val (.ref b7), .unset, .unset, .unset, .unset, .unset, .unset] [])) rfl (hb hby at_97) (by decide) (by decide)
              obtain ⟨b9, g9⟩ : ∃ z, z = h8.size := ⟨_, rfl⟩
              rw [← g9] at A9 D9 st9
              have ne_b7_b9 : b7 ≠ b9 := Nat.ne_of_lt (Nat.lt_of_lt_of_le E_b7.lt (Nat.le_of_eq g9.symm))
              have g_b9 : n0 ≤ b9 := Nat.le_trans Zs_8 (Nat.le_of_eq g9.symm)
              have Zs_9 : n0 ≤ _ := Nat.le_trans Zs_8 E9.1
              replace E_b7 := E_b7.ext E9
              replace F_left_b7 := F_left_b7.ext E9
              replace F_right_b7 := F_right_b7.ext E9
              replace F_red_b7 := F_red_b7.ext E9
              have E_b9 := A9
              have F_key_b9 : Fld Z h9 b9 "com/example/rowan/rowan/Node" "key" "Ljava/lang/Object;" .null := D9 (Or.inl (hw _ (List.mem_of_getElem? (i := 10) rfl))) (ty := (.object "java/lang/Object")) (by decide)
              have F_value_b9 : Fld Z h9 b9 "com/example/rowan/rowan/Node" "value" "Ljava/lang/Object;" .null := D9 (Or.inl (hw _ (List.mem_of_getElem? (i := 12) rfl))) (ty := (.object "java/lang/Object")) (by decide)
              have F_red_b9 : Fld Z h9 b9 "com/example/rowan/rowan/Node" "red" "Z" (.int (0 : Int32)) := D9 (Or.inl (hw _ (List.mem_of_getElem? (i := 14) rfl))) (ty := .boolean) (by decide)
              have F_right_b9 : Fld Z h9 b9 "com/example/rowan/rowan/Node" "right" "Lcom/example/rowan/rowan/Node;" .null := D9 (Or.inl (hw _ (List.mem_of_getElem? (i := 20) rfl))) (ty := (.object "com/example/rowan/rowan/Node")) (by decide)
              have F_left_b9 : Fld Z h9 b9 "com/example/rowan/rowan/Node" "left" "Lcom/example/rowan/rowan/Node;" .null := D9 (Or.inl (hw _ (List.mem_of_getElem? (i := 22) rfl))) (ty := (.object "com/example/rowan/rowan/Node")) (by decide)
              refine own_via st9 ?_
              show OwnEnds p.tables e below _ (T9.setTop (mkF m 100 #[.val (.int p0), .val (.int p1), .val (.int p2), .val (.int n), .val (.int r0), .val (.int r1), .val (.int r2), .val (.int r3), .val (.int hg), .val (.int dr), .val (.ref b7), .unset, .unset, .unset, .unset, .unset, .unset] [(.ref b9)]))
              refine own_via (fun t k => XS.dup X9.here hx rfl (hb hby at_100) rfl rfl k) ?_
              show OwnEnds p.tables e below _ (T9.setTop (mkF m 101 #[.val (.int p0), .val (.int p1), .val (.int p2), .val (.int n), .val (.int r0), .val (.int r1), .val (.int r2), .val (.int r3), .val (.int hg), .val (.int dr), .val (.ref b7), .unset, .unset, .unset, .unset, .unset, .unset] [(.ref b9), (.ref b9)]))
              refine own_via (fun t k => XS.aconstNull X9.here hx rfl (hb hby at_101) k) ?_
              show OwnEnds p.tables e below _ (T9.setTop (mkF m 102 #[.val (.int p0), .val (.int p1), .val (.int p2), .val (.int n), .val (.int r0), .val (.int r1), .val (.int r2), .val (.int r3), .val (.int hg), .val (.int dr), .val (.ref b7), .unset, .unset, .unset, .unset, .unset, .unset] [.null, (.ref b9), (.ref b9)]))
              refine own_via (fun t k => XS.aconstNull X9.here hx rfl (hb hby at_102) k) ?_
              show OwnEnds p.tables e below _ (T9.setTop (mkF m 103 #[.val (.int p0), .val (.int p1), .val (.int p2), .val (.int n), .val (.int r0), .val (.int r1), .val (.int r2), .val (.int r3), .val (.int hg), .val (.int dr), .val (.ref b7), .unset, .unset, .unset, .unset, .unset, .unset] [.null, .null, (.ref b9), (.ref b9)]))
              obtain ⟨_, _, ⟨T10, L10, k10, n10⟩, -, X10, ⟨Lc10, hQ10, l10, y10, z10⟩, st10⟩ := X9.specialBack hx (y := (⟨"com/example/rowan/rowan/Node", "<init>", "(Ljava/lang/Object;Ljava/lang/Object;)V"⟩ : MethodName)) rfl hown (mvT hZ (hw _ (List.mem_of_getElem? (i := 3) rfl))) (mvT hZ (hw _ (List.mem_of_getElem? (i := 4) rfl))) (mvT hZ (hw _ (List.mem_of_getElem? (i := 5) rfl))) (by decide) (backOf (W := 1) (rm1 l Z aw hw [] b9 h9 n0 Zs_9 E_b9 F_key_b9 F_value_b9 F_left_b9 F_right_b9 F_red_b9 g_b9) hZ (hw _ (List.mem_of_getElem? (i := 5) rfl)) (hw _ (List.mem_of_getElem? (i := 2) rfl)) (by decide) (by decide)) (g := (mkF m 103 #[.val (.int p0), .val (.int p1), .val (.int p2), .val (.int n), .val (.int r0), .val (.int r1), .val (.int r2), .val (.int r3), .val (.int hg), .val (.int dr), .val (.ref b7), .unset, .unset, .unset, .unset, .unset, .unset] [.null, .null, (.ref b9), (.ref b9)])) rfl (by rw [hml]; rfl) (Steps.refl _) (a := b9) (argsL := [.null, .null]) (rest := [(.ref b9)]) (lenOf pd_0 rfl) rfl (by show 2 * 0 + _ ≤ _; exact Nat.le_of_eq rfl) (hb hby at_103) (fun _ _ => ⟨rfl, e9, (by decide : 2 + 0 ≤ _), (by decide : 14 + 0 ≤ _)⟩)
              dsimp only [Pt.U, Pt.locs, Pt.cells, Pt.slots] at X10 l10 y10 z10 st10 hQ10
              subst l10 y10 z10
              obtain ⟨h10, e10⟩ : ∃ z, T10.heap = z := ⟨_, rfl⟩
              rw [e10] at hQ10
              obtain ⟨rfl, Nq10, K10, Y10_0, Y10_1, Y10_2, Y10_3⟩ := hQ10
              have N10 := Fr.app N8 Nq10
              replace E_b7 := E_b7.keep K10
              replace F_left_b7 := F_left_b7.keep K10 (ninS ne_b7_b9 nin0)
              replace F_right_b7 := F_right_b7.keep K10 (ninS ne_b7_b9 nin0)
              replace F_red_b7 := F_red_b7.keep K10 (ninS ne_b7_b9 nin0)
              replace E_b9 := E_b9.keep K10
              have F_left_b9 : Fld Z h10 b9 "com/example/rowan/rowan/Node" "left" "Lcom/example/rowan/rowan/Node;" .null := Y10_1
              have F_right_b9 : Fld Z h10 b9 "com/example/rowan/rowan/Node" "right" "Lcom/example/rowan/rowan/Node;" .null := Y10_2
              have F_red_b9 : Fld Z h10 b9 "com/example/rowan/rowan/Node" "red" "Z" (.int (1 : Int32)) := Y10_3
              have Zs_10 : n0 ≤ _ := Nat.le_trans Zs_9 K10.1
              refine own_of st10 ?_
              show OwnEnds p.tables e below _ (T10.setTop (mkF m 106 #[.val (.int p0), .val (.int p1), .val (.int p2), .val (.int n), .val (.int r0), .val (.int r1), .val (.int r2), .val (.int r3), .val (.int hg), .val (.int dr), .val (.ref b7), .unset, .unset, .unset, .unset, .unset, .unset] [(.ref b9)]))
              refine own_via (fun t k => XS.astore X10.here hx rfl (hb hby at_106) rfl rfl (l' := #[.val (.int p0), .val (.int p1), .val (.int p2), .val (.int n), .val (.int r0), .val (.int r1), .val (.int r2), .val (.int r3), .val (.int hg), .val (.int dr), .val (.ref b7), .val (.ref b9), .unset, .unset, .unset, .unset, .unset]) rfl k) ?_
              show OwnEnds p.tables e below _ (T10.setTop (mkF m 108 #[.val (.int p0), .val (.int p1), .val (.int p2), .val (.int n), .val (.int r0), .val (.int r1), .val (.int r2), .val (.int r3), .val (.int hg), .val (.int dr), .val (.ref b7), .val (.ref b9), .unset, .unset, .unset, .unset, .unset] []))
              obtain ⟨T11, h11, X11, e11, E11, A11, D11, -, st11⟩ := newO X10 hx hZ hown (hw _ (List.mem_of_getElem? (i := 0) rfl)) (hw _ (List.mem_of_getElem? (i := 1) rfl)) (hw _ (List.mem_of_getElem? (i := 2) rfl)) e10 (g := (mkF m 108 #[.val (.int p0), .val (.int p1), .val (.int p2), .val (.int n), .val (.int r0), .val (.int r1), .val (.int r2), .val (.int r3), .val (.int hg), .val (.int dr), .val (.ref b7), .val (.ref b9), .unset, .unset, .unset, .unset, .unset] [])) rfl (hb hby at_108) (by decide) (by decide)
              obtain ⟨b11, g11⟩ : ∃ z, z = h10.size := ⟨_, rfl⟩
              rw [← g11] at A11 D11 st11
              have ne_b7_b11 : b7 ≠ b11 := Nat.ne_of_lt (Nat.lt_of_lt_of_le E_b7.lt (Nat.le_of_eq g11.symm))
              have ne_b9_b11 : b9 ≠ b11 := Nat.ne_of_lt (Nat.lt_of_lt_of_le E_b9.lt (Nat.le_of_eq g11.symm))
              have g_b11 : n0 ≤ b11 := Nat.le_trans Zs_10 (Nat.le_of_eq g11.symm)
              have Zs_11 : n0 ≤ _ := Nat.le_trans Zs_10 E11.1
              replace E_b7 := E_b7.ext E11
              replace F_left_b7 := F_left_b7.ext E11
              replace F_right_b7 := F_right_b7.ext E11
              replace F_red_b7 := F_red_b7.ext E11
              replace E_b9 := E_b9.ext E11
              replace F_left_b9 := F_left_b9.ext E11
              replace F_right_b9 := F_right_b9.ext E11
              replace F_red_b9 := F_red_b9.ext E11
              have E_b11 := A11
              have F_key_b11 : Fld Z h11 b11 "com/example/rowan/rowan/Node" "key" "Ljava/lang/Object;" .null := D11 (Or.inl (hw _ (List.mem_of_getElem? (i := 10) rfl))) (ty := (.object "java/lang/Object")) (by decide)
              have F_value_b11 : Fld Z h11 b11 "com/example/rowan/rowan/Node" "value" "Ljava/lang/Object;" .null := D11 (Or.inl (hw _ (List.mem_of_getElem? (i := 12) rfl))) (ty := (.object "java/lang/Object")) (by decide)
              have F_red_b11 : Fld Z h11 b11 "com/example/rowan/rowan/Node" "red" "Z" (.int (0 : Int32)) := D11 (Or.inl (hw _ (List.mem_of_getElem? (i := 14) rfl))) (ty := .boolean) (by decide)
              have F_right_b11 : Fld Z h11 b11 "com/example/rowan/rowan/Node" "right" "Lcom/example/rowan/rowan/Node;" .null := D11 (Or.inl (hw _ (List.mem_of_getElem? (i := 20) rfl))) (ty := (.object "com/example/rowan/rowan/Node")) (by decide)
              have F_left_b11 : Fld Z h11 b11 "com/example/rowan/rowan/Node" "left" "Lcom/example/rowan/rowan/Node;" .null := D11 (Or.inl (hw _ (List.mem_of_getElem? (i := 22) rfl))) (ty := (.object "com/example/rowan/rowan/Node")) (by decide)
              refine own_via st11 ?_
              show OwnEnds p.tables e below _ (T11.setTop (mkF m 111 #[.val (.int p0), .val (.int p1), .val (.int p2), .val (.int n), .val (.int r0), .val (.int r1), .val (.int r2), .val (.int r3), .val (.int hg), .val (.int dr), .val (.ref b7), .val (.ref b9), .unset, .unset, .unset, .unset, .unset] [(.ref b11)]))
              refine own_via (fun t k => XS.dup X11.here hx rfl (hb hby at_111) rfl rfl k) ?_
              show OwnEnds p.tables e below _ (T11.setTop (mkF m 112 #[.val (.int p0), .val (.int p1), .val (.int p2), .val (.int n), .val (.int r0), .val (.int r1), .val (.int r2), .val (.int r3), .val (.int hg), .val (.int dr), .val (.ref b7), .val (.ref b9), .unset, .unset, .unset, .unset, .unset] [(.ref b11), (.ref b11)]))
              refine own_via (fun t k => XS.aconstNull X11.here hx rfl (hb hby at_112) k) ?_
              show OwnEnds p.tables e below _ (T11.setTop (mkF m 113 #[.val (.int p0), .val (.int p1), .val (.int p2), .val (.int n), .val (.int r0), .val (.int r1), .val (.int r2), .val (.int r3), .val (.int hg), .val (.int dr), .val (.ref b7), .val (.ref b9), .unset, .unset, .unset, .unset, .unset] [.null, (.ref b11), (.ref b11)]))
              refine own_via (fun t k => XS.aconstNull X11.here hx rfl (hb hby at_113) k) ?_
              show OwnEnds p.tables e below _ (T11.setTop (mkF m 114 #[.val (.int p0), .val (.int p1), .val (.int p2), .val (.int n), .val (.int r0), .val (.int r1), .val (.int r2), .val (.int r3), .val (.int hg), .val (.int dr), .val (.ref b7), .val (.ref b9), .unset, .unset, .unset, .unset, .unset] [.null, .null, (.ref b11), (.ref b11)]))
              obtain ⟨_, _, ⟨T12, L12, k12, n12⟩, -, X12, ⟨Lc12, hQ12, l12, y12, z12⟩, st12⟩ := X11.specialBack hx (y := (⟨"com/example/rowan/rowan/Node", "<init>", "(Ljava/lang/Object;Ljava/lang/Object;)V"⟩ : MethodName)) rfl hown (mvT hZ (hw _ (List.mem_of_getElem? (i := 3) rfl))) (mvT hZ (hw _ (List.mem_of_getElem? (i := 4) rfl))) (mvT hZ (hw _ (List.mem_of_getElem? (i := 5) rfl))) (by decide) (backOf (W := 1) (rm1 l Z aw hw [] b11 h11 n0 Zs_11 E_b11 F_key_b11 F_value_b11 F_left_b11 F_right_b11 F_red_b11 g_b11) hZ (hw _ (List.mem_of_getElem? (i := 5) rfl)) (hw _ (List.mem_of_getElem? (i := 2) rfl)) (by decide) (by decide)) (g := (mkF m 114 #[.val (.int p0), .val (.int p1), .val (.int p2), .val (.int n), .val (.int r0), .val (.int r1), .val (.int r2), .val (.int r3), .val (.int hg), .val (.int dr), .val (.ref b7), .val (.ref b9), .unset, .unset, .unset, .unset, .unset] [.null, .null, (.ref b11), (.ref b11)])) rfl (by rw [hml]; rfl) (Steps.refl _) (a := b11) (argsL := [.null, .null]) (rest := [(.ref b11)]) (lenOf pd_0 rfl) rfl (by show 2 * 0 + _ ≤ _; exact Nat.le_of_eq rfl) (hb hby at_114) (fun _ _ => ⟨rfl, e11, (by decide : 3 + 0 ≤ _), (by decide : 21 + 0 ≤ _)⟩)
              dsimp only [Pt.U, Pt.locs, Pt.cells, Pt.slots] at X12 l12 y12 z12 st12 hQ12
              subst l12 y12 z12
              obtain ⟨h12, e12⟩ : ∃ z, T12.heap = z := ⟨_, rfl⟩
              rw [e12] at hQ12
              obtain ⟨rfl, Nq12, K12, Y12_0, Y12_1, Y12_2, Y12_3⟩ := hQ12
              have N12 := Fr.app N10 Nq12
              replace E_b7 := E_b7.keep K12
              replace F_left_b7 := F_left_b7.keep K12 (ninS ne_b7_b11 nin0)
              replace F_right_b7 := F_right_b7.keep K12 (ninS ne_b7_b11 nin0)
              replace F_red_b7 := F_red_b7.keep K12 (ninS ne_b7_b11 nin0)
              replace E_b9 := E_b9.keep K12
              replace F_left_b9 := F_left_b9.keep K12 (ninS ne_b9_b11 nin0)
              replace F_right_b9 := F_right_b9.keep K12 (ninS ne_b9_b11 nin0)
              replace F_red_b9 := F_red_b9.keep K12 (ninS ne_b9_b11 nin0)
              replace E_b11 := E_b11.keep K12
              have F_left_b11 : Fld Z h12 b11 "com/example/rowan/rowan/Node" "left" "Lcom/example/rowan/rowan/Node;" .null := Y12_1
              have F_right_b11 : Fld Z h12 b11 "com/example/rowan/rowan/Node" "right" "Lcom/example/rowan/rowan/Node;" .null := Y12_2
              have F_red_b11 : Fld Z h12 b11 "com/example/rowan/rowan/Node" "red" "Z" (.int (1 : Int32)) := Y12_3
              have Zs_12 : n0 ≤ _ := Nat.le_trans Zs_11 K12.1
              refine own_of st12 ?_
              show OwnEnds p.tables e below _ (T12.setTop (mkF m 117 #[.val (.int p0), .val (.int p1), .val (.int p2), .val (.int n), .val (.int r0), .val (.int r1), .val (.int r2), .val (.int r3), .val (.int hg), .val (.int dr), .val (.ref b7), .val (.ref b9), .unset, .unset, .unset, .unset, .unset] [(.ref b11)]))
              refine own_via (fun t k => XS.astore X12.here hx rfl (hb hby at_117) rfl rfl (l' := #[.val (.int p0), .val (.int p1), .val (.int p2), .val (.int n), .val (.int r0), .val (.int r1), .val (.int r2), .val (.int r3), .val (.int hg), .val (.int dr), .val (.ref b7), .val (.ref b9), .val (.ref b11), .unset, .unset, .unset, .unset]) rfl k) ?_
              show OwnEnds p.tables e below _ (T12.setTop (mkF m 119 #[.val (.int p0), .val (.int p1), .val (.int p2), .val (.int n), .val (.int r0), .val (.int r1), .val (.int r2), .val (.int r3), .val (.int hg), .val (.int dr), .val (.ref b7), .val (.ref b9), .val (.ref b11), .unset, .unset, .unset, .unset] []))
              obtain ⟨T13, h13, X13, e13, E13, A13, D13, -, st13⟩ := newO X12 hx hZ hown (hw _ (List.mem_of_getElem? (i := 0) rfl)) (hw _ (List.mem_of_getElem? (i := 1) rfl)) (hw _ (List.mem_of_getElem? (i := 2) rfl)) e12 (g := (mkF m 119 #[.val (.int p0), .val (.int p1), .val (.int p2), .val (.int n), .val (.int r0), .val (.int r1), .val (.int r2), .val (.int r3), .val (.int hg), .val (.int dr), .val (.ref b7), .val (.ref b9), .val (.ref b11), .unset, .unset, .unset, .unset] [])) rfl (hb hby at_119) (by decide) (by decide)
              obtain ⟨b13, g13⟩ : ∃ z, z = h12.size := ⟨_, rfl⟩
              rw [← g13] at A13 D13 st13
              have ne_b11_b13 : b11 ≠ b13 := Nat.ne_of_lt (Nat.lt_of_lt_of_le E_b11.lt (Nat.le_of_eq g13.symm))
              have ne_b7_b13 : b7 ≠ b13 := Nat.ne_of_lt (Nat.lt_of_lt_of_le E_b7.lt (Nat.le_of_eq g13.symm))
              have ne_b9_b13 : b9 ≠ b13 := Nat.ne_of_lt (Nat.lt_of_lt_of_le E_b9.lt (Nat.le_of_eq g13.symm))
              have g_b13 : n0 ≤ b13 := Nat.le_trans Zs_12 (Nat.le_of_eq g13.symm)
              have Zs_13 : n0 ≤ _ := Nat.le_trans Zs_12 E13.1
              replace E_b7 := E_b7.ext E13
              replace F_left_b7 := F_left_b7.ext E13
              replace F_right_b7 := F_right_b7.ext E13
              replace F_red_b7 := F_red_b7.ext E13
              replace E_b9 := E_b9.ext E13
              replace F_left_b9 := F_left_b9.ext E13
              replace F_right_b9 := F_right_b9.ext E13
              replace F_red_b9 := F_red_b9.ext E13
              replace E_b11 := E_b11.ext E13
              replace F_left_b11 := F_left_b11.ext E13
              replace F_right_b11 := F_right_b11.ext E13
              replace F_red_b11 := F_red_b11.ext E13
              have E_b13 := A13
              have F_key_b13 : Fld Z h13 b13 "com/example/rowan/rowan/Node" "key" "Ljava/lang/Object;" .null := D13 (Or.inl (hw _ (List.mem_of_getElem? (i := 10) rfl))) (ty := (.object "java/lang/Object")) (by decide)
              have F_value_b13 : Fld Z h13 b13 "com/example/rowan/rowan/Node" "value" "Ljava/lang/Object;" .null := D13 (Or.inl (hw _ (List.mem_of_getElem? (i := 12) rfl))) (ty := (.object "java/lang/Object")) (by decide)
              have F_red_b13 : Fld Z h13 b13 "com/example/rowan/rowan/Node" "red" "Z" (.int (0 : Int32)) := D13 (Or.inl (hw _ (List.mem_of_getElem? (i := 14) rfl))) (ty := .boolean) (by decide)
              have F_right_b13 : Fld Z h13 b13 "com/example/rowan/rowan/Node" "right" "Lcom/example/rowan/rowan/Node;" .null := D13 (Or.inl (hw _ (List.mem_of_getElem? (i := 20) rfl))) (ty := (.object "com/example/rowan/rowan/Node")) (by decide)
              have F_left_b13 : Fld Z h13 b13 "com/example/rowan/rowan/Node" "left" "Lcom/example/rowan/rowan/Node;" .null := D13 (Or.inl (hw _ (List.mem_of_getElem? (i := 22) rfl))) (ty := (.object "com/example/rowan/rowan/Node")) (by decide)
              refine own_via st13 ?_
              show OwnEnds p.tables e below _ (T13.setTop (mkF m 122 #[.val (.int p0), .val (.int p1), .val (.int p2), .val (.int n), .val (.int r0), .val (.int r1), .val (.int r2), .val (.int r3), .val (.int hg), .val (.int dr), .val (.ref b7), .val (.ref b9), .val (.ref b11), .unset, .unset, .unset, .unset] [(.ref b13)]))
              refine own_via (fun t k => XS.dup X13.here hx rfl (hb hby at_122) rfl rfl k) ?_
              show OwnEnds p.tables e below _ (T13.setTop (mkF m 123 #[.val (.int p0), .val (.int p1), .val (.int p2), .val (.int n), .val (.int r0), .val (.int r1), .val (.int r2), .val (.int r3), .val (.int hg), .val (.int dr), .val (.ref b7), .val (.ref b9), .val (.ref b11), .unset, .unset, .unset, .unset] [(.ref b13), (.ref b13)]))
              refine own_via (fun t k => XS.aconstNull X13.here hx rfl (hb hby at_123) k) ?_
              show OwnEnds p.tables e below _ (T13.setTop (mkF m 124 #[.val (.int p0), .val (.int p1), .val (.int p2), .val (.int n), .val (.int r0), .val (.int r1), .val (.int r2), .val (.int r3), .val (.int hg), .val (.int dr), .val (.ref b7), .val (.ref b9), .val (.ref b11), .unset, .unset, .unset, .unset] [.null, (.ref b13), (.ref b13)]))
              refine own_via (fun t k => XS.aconstNull X13.here hx rfl (hb hby at_124) k) ?_
              show OwnEnds p.tables e below _ (T13.setTop (mkF m 125 #[.val (.int p0), .val (.int p1), .val (.int p2), .val (.int n), .val (.int r0), .val (.int r1), .val (.int r2), .val (.int r3), .val (.int hg), .val (.int dr), .val (.ref b7), .val (.ref b9), .val (.ref b11), .unset, .unset, .unset, .unset] [.null, .null, (.ref b13), (.ref b13)]))
              obtain ⟨_, _, ⟨T14, L14, k14, n14⟩, -, X14, ⟨Lc14, hQ14, l14, y14, z14⟩, st14⟩ := X13.specialBack hx (y := (⟨"com/example/rowan/rowan/Node", "<init>", "(Ljava/lang/Object;Ljava/lang/Object;)V"⟩ : MethodName)) rfl hown (mvT hZ (hw _ (List.mem_of_getElem? (i := 3) rfl))) (mvT hZ (hw _ (List.mem_of_getElem? (i := 4) rfl))) (mvT hZ (hw _ (List.mem_of_getElem? (i := 5) rfl))) (by decide) (backOf (W := 1) (rm1 l Z aw hw [] b13 h13 n0 Zs_13 E_b13 F_key_b13 F_value_b13 F_left_b13 F_right_b13 F_red_b13 g_b13) hZ (hw _ (List.mem_of_getElem? (i := 5) rfl)) (hw _ (List.mem_of_getElem? (i := 2) rfl)) (by decide) (by decide)) (g := (mkF m 125 #[.val (.int p0), .val (.int p1), .val (.int p2), .val (.int n), .val (.int r0), .val (.int r1), .val (.int r2), .val (.int r3), .val (.int hg), .val (.int dr), .val (.ref b7), .val (.ref b9), .val (.ref b11), .unset, .unset, .unset, .unset] [.null, .null, (.ref b13), (.ref b13)])) rfl (by rw [hml]; rfl) (Steps.refl _) (a := b13) (argsL := [.null, .null]) (rest := [(.ref b13)]) (lenOf pd_0 rfl) rfl (by show 2 * 0 + _ ≤ _; exact Nat.le_of_eq rfl) (hb hby at_125) (fun _ _ => ⟨rfl, e13, (by decide : 4 + 0 ≤ _), (by decide : 28 + 0 ≤ _)⟩)
              dsimp only [Pt.U, Pt.locs, Pt.cells, Pt.slots] at X14 l14 y14 z14 st14 hQ14
              subst l14 y14 z14
              obtain ⟨h14, e14⟩ : ∃ z, T14.heap = z := ⟨_, rfl⟩
              rw [e14] at hQ14
              obtain ⟨rfl, Nq14, K14, Y14_0, Y14_1, Y14_2, Y14_3⟩ := hQ14
              have N14 := Fr.app N12 Nq14
              replace E_b7 := E_b7.keep K14
              replace F_left_b7 := F_left_b7.keep K14 (ninS ne_b7_b13 nin0)
              replace F_right_b7 := F_right_b7.keep K14 (ninS ne_b7_b13 nin0)
              replace F_red_b7 := F_red_b7.keep K14 (ninS ne_b7_b13 nin0)
              replace E_b9 := E_b9.keep K14
              replace F_left_b9 := F_left_b9.keep K14 (ninS ne_b9_b13 nin0)
              replace F_right_b9 := F_right_b9.keep K14 (ninS ne_b9_b13 nin0)
              replace F_red_b9 := F_red_b9.keep K14 (ninS ne_b9_b13 nin0)
              replace E_b11 := E_b11.keep K14
              replace F_left_b11 := F_left_b11.keep K14 (ninS ne_b11_b13 nin0)
              replace F_right_b11 := F_right_b11.keep K14 (ninS ne_b11_b13 nin0)
              replace F_red_b11 := F_red_b11.keep K14 (ninS ne_b11_b13 nin0)
              replace E_b13 := E_b13.keep K14
              have F_left_b13 : Fld Z h14 b13 "com/example/rowan/rowan/Node" "left" "Lcom/example/rowan/rowan/Node;" .null := Y14_1
              have F_right_b13 : Fld Z h14 b13 "com/example/rowan/rowan/Node" "right" "Lcom/example/rowan/rowan/Node;" .null := Y14_2
              have F_red_b13 : Fld Z h14 b13 "com/example/rowan/rowan/Node" "red" "Z" (.int (1 : Int32)) := Y14_3
              have Zs_14 : n0 ≤ _ := Nat.le_trans Zs_13 K14.1
              refine own_of st14 ?_
              show OwnEnds p.tables e below _ (T14.setTop (mkF m 128 #[.val (.int p0), .val (.int p1), .val (.int p2), .val (.int n), .val (.int r0), .val (.int r1), .val (.int r2), .val (.int r3), .val (.int hg), .val (.int dr), .val (.ref b7), .val (.ref b9), .val (.ref b11), .unset, .unset, .unset, .unset] [(.ref b13)]))
              refine own_via (fun t k => XS.astore X14.here hx rfl (hb hby at_128) rfl rfl (l' := #[.val (.int p0), .val (.int p1), .val (.int p2), .val (.int n), .val (.int r0), .val (.int r1), .val (.int r2), .val (.int r3), .val (.int hg), .val (.int dr), .val (.ref b7), .val (.ref b9), .val (.ref b11), .val (.ref b13), .unset, .unset, .unset]) rfl k) ?_
              show OwnEnds p.tables e below _ (T14.setTop (mkF m 130 #[.val (.int p0), .val (.int p1), .val (.int p2), .val (.int n), .val (.int r0), .val (.int r1), .val (.int r2), .val (.int r3), .val (.int hg), .val (.int dr), .val (.ref b7), .val (.ref b9), .val (.ref b11), .val (.ref b13), .unset, .unset, .unset] []))
              obtain ⟨T15, h15, X15, e15, E15, A15, D15, -, st15⟩ := newO X14 hx hZ hown (hw _ (List.mem_of_getElem? (i := 0) rfl)) (hw _ (List.mem_of_getElem? (i := 1) rfl)) (hw _ (List.mem_of_getElem? (i := 2) rfl)) e14 (g := (mkF m 130 #[.val (.int p0), .val (.int p1), .val (.int p2), .val (.int n), .val (.int r0), .val (.int r1), .val (.int r2), .val (.int r3), .val (.int hg), .val (.int dr), .val (.ref b7), .val (.ref b9), .val (.ref b11), .val (.ref b13), .unset, .unset, .unset] [])) rfl (hb hby at_130) (by decide) (by decide)
              obtain ⟨b15, g15⟩ : ∃ z, z = h14.size := ⟨_, rfl⟩
              rw [← g15] at A15 D15 st15
              have ne_b11_b15 : b11 ≠ b15 := Nat.ne_of_lt (Nat.lt_of_lt_of_le E_b11.lt (Nat.le_of_eq g15.symm))
              have ne_b13_b15 : b13 ≠ b15 := Nat.ne_of_lt (Nat.lt_of_lt_of_le E_b13.lt (Nat.le_of_eq g15.symm))
              have ne_b7_b15 : b7 ≠ b15 := Nat.ne_of_lt (Nat.lt_of_lt_of_le E_b7.lt (Nat.le_of_eq g15.symm))
              have ne_b9_b15 : b9 ≠ b15 := Nat.ne_of_lt (Nat.lt_of_lt_of_le E_b9.lt (Nat.le_of_eq g15.symm))
              have g_b15 : n0 ≤ b15 := Nat.le_trans Zs_14 (Nat.le_of_eq g15.symm)
              have Zs_15 : n0 ≤ _ := Nat.le_trans Zs_14 E15.1
              replace E_b7 := E_b7.ext E15
              replace F_left_b7 := F_left_b7.ext E15
              replace F_right_b7 := F_right_b7.ext E15
              replace F_red_b7 := F_red_b7.ext E15
              replace E_b9 := E_b9.ext E15
              replace F_left_b9 := F_left_b9.ext E15
              replace F_right_b9 := F_right_b9.ext E15
              replace F_red_b9 := F_red_b9.ext E15
              replace E_b11 := E_b11.ext E15
              replace F_left_b11 := F_left_b11.ext E15
              replace F_right_b11 := F_right_b11.ext E15
              replace F_red_b11 := F_red_b11.ext E15
              replace E_b13 := E_b13.ext E15
              replace F_left_b13 := F_left_b13.ext E15
              replace F_right_b13 := F_right_b13.ext E15
              replace F_red_b13 := F_red_b13.ext E15
              have E_b15 := A15
              have F_key_b15 : Fld Z h15 b15 "com/example/rowan/rowan/Node" "key" "Ljava/lang/Object;" .null := D15 (Or.inl (hw _ (List.mem_of_getElem? (i := 10) rfl))) (ty := (.object "java/lang/Object")) (by decide)
              have F_value_b15 : Fld Z h15 b15 "com/example/rowan/rowan/Node" "value" "Ljava/lang/Object;" .null := D15 (Or.inl (hw _ (List.mem_of_getElem? (i := 12) rfl))) (ty := (.object "java/lang/Object")) (by decide)
              have F_red_b15 : Fld Z h15 b15 "com/example/rowan/rowan/Node" "red" "Z" (.int (0 : Int32)) := D15 (Or.inl (hw _ (List.mem_of_getElem? (i := 14) rfl))) (ty := .boolean) (by decide)
              have F_right_b15 : Fld Z h15 b15 "com/example/rowan/rowan/Node" "right" "Lcom/example/rowan/rowan/Node;" .null := D15 (Or.inl (hw _ (List.mem_of_getElem? (i := 20) rfl))) (ty := (.object "com/example/rowan/rowan/Node")) (by decide)
              have F_left_b15 : Fld Z h15 b15 "com/example/rowan/rowan/Node" "left" "Lcom/example/rowan/rowan/Node;" .null := D15 (Or.inl (hw _ (List.mem_of_getElem? (i := 22) rfl))) (ty := (.object "com/example/rowan/rowan/Node")) (by decide)
              refine own_via st15 ?_
              show OwnEnds p.tables e below _ (T15.setTop (mkF m 133 #[.val (.int p0), .val (.int p1), .val (.int p2), .val (.int n), .val (.int r0), .val (.int r1), .val (.int r2), .val (.int r3), .val (.int hg), .val (.int dr), .val (.ref b7), .val (.ref b9), .val (.ref b11), .val (.ref b13), .unset, .unset, .unset] [(.ref b15)]))
              refine own_via (fun t k => XS.dup X15.here hx rfl (hb hby at_133) rfl rfl k) ?_
              show OwnEnds p.tables e below _ (T15.setTop (mkF m 134 #[.val (.int p0), .val (.int p1), .val (.int p2), .val (.int n), .val (.int r0), .val (.int r1), .val (.int r2), .val (.int r3), .val (.int hg), .val (.int dr), .val (.ref b7), .val (.ref b9), .val (.ref b11), .val (.ref b13), .unset, .unset, .unset] [(.ref b15), (.ref b15)]))
              refine own_via (fun t k => XS.aconstNull X15.here hx rfl (hb hby at_134) k) ?_
              show OwnEnds p.tables e below _ (T15.setTop (mkF m 135 #[.val (.int p0), .val (.int p1), .val (.int p2), .val (.int n), .val (.int r0), .val (.int r1), .val (.int r2), .val (.int r3), .val (.int hg), .val (.int dr), .val (.ref b7), .val (.ref b9), .val (.ref b11), .val (.ref b13), .unset, .unset, .unset] [.null, (.ref b15), (.ref b15)]))
              refine own_via (fun t k => XS.aconstNull X15.here hx rfl (hb hby at_135) k) ?_
              show OwnEnds p.tables e below _ (T15.setTop (mkF m 136 #[.val (.int p0), .val (.int p1), .val (.int p2), .val (.int n), .val (.int r0), .val (.int r1), .val (.int r2), .val (.int r3), .val (.int hg), .val (.int dr), .val (.ref b7), .val (.ref b9), .val (.ref b11), .val (.ref b13), .unset, .unset, .unset] [.null, .null, (.ref b15), (.ref b15)]))
              obtain ⟨_, _, ⟨T16, L16, k16, n16⟩, -, X16, ⟨Lc16, hQ16, l16, y16, z16⟩, st16⟩ := X15.specialBack hx (y := (⟨"com/example/rowan/rowan/Node", "<init>", "(Ljava/lang/Object;Ljava/lang/Object;)V"⟩ : MethodName)) rfl hown (mvT hZ (hw _ (List.mem_of_getElem? (i := 3) rfl))) (mvT hZ (hw _ (List.mem_of_getElem? (i := 4) rfl))) (mvT hZ (hw _ (List.mem_of_getElem? (i := 5) rfl))) (by decide) (backOf (W := 1) (rm1 l Z aw hw [] b15 h15 n0 Zs_15 E_b15 F_key_b15 F_value_b15 F_left_b15 F_right_b15 F_red_b15 g_b15) hZ (hw _ (List.mem_of_getElem? (i := 5) rfl)) (hw _ (List.mem_of_getElem? (i := 2) rfl)) (by decide) (by decide)) (g := (mkF m 136 #[.val (.int p0), .val (.int p1), .val (.int p2), .val (.int n), .val (.int r0), .val (.int r1), .val (.int r2), .val (.int r3), .val (.int hg), .val (.int dr), .val (.ref b7), .val (.ref b9), .val (.ref b11), .val (.ref b13), .unset, .unset, .unset] [.null, .null, (.ref b15), (.ref b15)])) rfl (by rw [hml]; rfl) (Steps.refl _) (a := b15) (argsL := [.null, .null]) (rest := [(.ref b15)]) (lenOf pd_0 rfl) rfl (by show 2 * 0 + _ ≤ _; exact Nat.le_of_eq rfl) (hb hby at_136) (fun _ _ => ⟨rfl, e15, (by decide : 5 + 0 ≤ _), (by decide : 35 + 0 ≤ _)⟩)
              dsimp only [Pt.U, Pt.locs, Pt.cells, Pt.slots] at X16 l16 y16 z16 st16 hQ16
              subst l16 y16 z16
              obtain ⟨h16, e16⟩ : ∃ z, T16.heap = z := ⟨_, rfl⟩
              rw [e16] at hQ16
              obtain ⟨rfl, Nq16, K16, Y16_0, Y16_1, Y16_2, Y16_3⟩ := hQ16
              have N16 := Fr.app N14 Nq16
              replace E_b7 := E_b7.keep K16
              replace F_left_b7 := F_left_b7.keep K16 (ninS ne_b7_b15 nin0)
              replace F_right_b7 := F_right_b7.keep K16 (ninS ne_b7_b15 nin0)
              replace F_red_b7 := F_red_b7.keep K16 (ninS ne_b7_b15 nin0)
              replace E_b9 := E_b9.keep K16
              replace F_left_b9 := F_left_b9.keep K16 (ninS ne_b9_b15 nin0)
              replace F_right_b9 := F_right_b9.keep K16 (ninS ne_b9_b15 nin0)
              replace F_red_b9 := F_red_b9.keep K16 (ninS ne_b9_b15 nin0)
              replace E_b11 := E_b11.keep K16
              replace F_left_b11 := F_left_b11.keep K16 (ninS ne_b11_b15 nin0)
              replace F_right_b11 := F_right_b11.keep K16 (ninS ne_b11_b15 nin0)
              replace F_red_b11 := F_red_b11.keep K16 (ninS ne_b11_b15 nin0)
              replace E_b13 := E_b13.keep K16
              replace F_left_b13 := F_left_b13.keep K16 (ninS ne_b13_b15 nin0)
              replace F_right_b13 := F_right_b13.keep K16 (ninS ne_b13_b15 nin0)
              replace F_red_b13 := F_red_b13.keep K16 (ninS ne_b13_b15 nin0)
              replace E_b15 := E_b15.keep K16
              have F_left_b15 : Fld Z h16 b15 "com/example/rowan/rowan/Node" "left" "Lcom/example/rowan/rowan/Node;" .null := Y16_1
              have F_right_b15 : Fld Z h16 b15 "com/example/rowan/rowan/Node" "right" "Lcom/example/rowan/rowan/Node;" .null := Y16_2
              have F_red_b15 : Fld Z h16 b15 "com/example/rowan/rowan/Node" "red" "Z" (.int (1 : Int32)) := Y16_3
              have Zs_16 : n0 ≤ _ := Nat.le_trans Zs_15 K16.1
              refine own_of st16 ?_
              show OwnEnds p.tables e below _ (T16.setTop (mkF m 139 #[.val (.int p0), .val (.int p1), .val (.int p2), .val (.int n), .val (.int r0), .val (.int r1), .val (.int r2), .val (.int r3), .val (.int hg), .val (.int dr), .val (.ref b7), .val (.ref b9), .val (.ref b11), .val (.ref b13), .unset, .unset, .unset] [(.ref b15)]))
              refine own_via (fun t k => XS.astore X16.here hx rfl (hb hby at_139) rfl rfl (l' := #[.val (.int p0), .val (.int p1), .val (.int p2), .val (.int n), .val (.int r0), .val (.int r1), .val (.int r2), .val (.int r3), .val (.int hg), .val (.int dr), .val (.ref b7), .val (.ref b9), .val (.ref b11), .val (.ref b13), .val (.ref b15), .unset, .unset]) rfl k) ?_
              show OwnEnds p.tables e below _ (T16.setTop (mkF m 141 #[.val (.int p0), .val (.int p1), .val (.int p2), .val (.int n), .val (.int r0), .val (.int r1), .val (.int r2), .val (.int r3), .val (.int hg), .val (.int dr), .val (.ref b7), .val (.ref b9), .val (.ref b11), .val (.ref b13), .val (.ref b15), .unset, .unset] []))
              refine own_via (fun t k => XS.aload X16.here hx rfl (hb hby at_141) rfl rfl k) ?_
              show OwnEnds p.tables e below _ (T16.setTop (mkF m 143 #[.val (.int p0), .val (.int p1), .val (.int p2), .val (.int n), .val (.int r0), .val (.int r1), .val (.int r2), .val (.int r3), .val (.int hg), .val (.int dr), .val (.ref b7), .val (.ref b9), .val (.ref b11), .val (.ref b13), .val (.ref b15), .unset, .unset] [(.ref b7)]))
              refine own_via (fun t k => XS.iload X16.here hx rfl (hb hby at_143) rfl k) ?_
              show OwnEnds p.tables e below _ (T16.setTop (mkF m 145 #[.val (.int p0), .val (.int p1), .val (.int p2), .val (.int n), .val (.int r0), .val (.int r1), .val (.int r2), .val (.int r3), .val (.int hg), .val (.int dr), .val (.ref b7), .val (.ref b9), .val (.ref b11), .val (.ref b13), .val (.ref b15), .unset, .unset] [(.int r0), (.ref b7)]))
              obtain ⟨T17, h17, X17, e17, W17, st17⟩ := putFN X16 hx hZ hown (hw _ (List.mem_of_getElem? (i := 15) rfl)) Via.refl e16 F_red_b7 E_b7 (Or.inl (hw _ (List.mem_of_getElem? (i := 14) rfl))) (hw _ (List.mem_of_getElem? (i := 1) rfl)) (ty := .boolean) (v' := (.int (nar .boolean r0))) (by decide) rfl (fits_nar_bool _) (g := (mkF m 145 #[.val (.int p0), .val (.int p1), .val (.int p2), .val (.int n), .val (.int r0), .val (.int r1), .val (.int r2), .val (.int r3), .val (.int hg), .val (.int dr), .val (.ref b7), .val (.ref b9), .val (.ref b11), .val (.ref b13), .val (.ref b15), .unset, .unset] [(.int r0), (.ref b7)])) rfl rfl (hb hby at_145)
              replace E_b7 := E_b7.wr W17
              replace F_left_b7 := F_left_b7.other W17 (Or.inr (slot_ne (Or.inl (hw _ (List.mem_of_getElem? (i := 22) rfl))) (Or.inl (hw _ (List.mem_of_getElem? (i := 14) rfl))) (by decide) (t := (.object "com/example/rowan/rowan/Node")) (t' := .boolean) (by decide) (by decide)))
              replace F_right_b7 := F_right_b7.other W17 (Or.inr (slot_ne (Or.inl (hw _ (List.mem_of_getElem? (i := 20) rfl))) (Or.inl (hw _ (List.mem_of_getElem? (i := 14) rfl))) (by decide) (t := (.object "com/example/rowan/rowan/Node")) (t' := .boolean) (by decide) (by decide)))
              replace F_red_b7 := F_red_b7.same W17
              replace E_b9 := E_b9.wr W17
              replace F_left_b9 := F_left_b9.other W17 (Or.inl (Ne.symm ne_b7_b9))
              replace F_right_b9 := F_right_b9.other W17 (Or.inl (Ne.symm ne_b7_b9))
              replace F_red_b9 := F_red_b9.other W17 (Or.inl (Ne.symm ne_b7_b9))
              replace E_b11 := E_b11.wr W17
              replace F_left_b11 := F_left_b11.other W17 (Or.inl (Ne.symm ne_b7_b11))
              replace F_right_b11 := F_right_b11.other W17 (Or.inl (Ne.symm ne_b7_b11))
              replace F_red_b11 := F_red_b11.other W17 (Or.inl (Ne.symm ne_b7_b11))
              replace E_b13 := E_b13.wr W17
              replace F_left_b13 := F_left_b13.other W17 (Or.inl (Ne.symm ne_b7_b13))
              replace F_right_b13 := F_right_b13.other W17 (Or.inl (Ne.symm ne_b7_b13))
              replace F_red_b13 := F_red_b13.other W17 (Or.inl (Ne.symm ne_b7_b13))
              replace E_b15 := E_b15.wr W17
              replace F_left_b15 := F_left_b15.other W17 (Or.inl (Ne.symm ne_b7_b15))
              replace F_right_b15 := F_right_b15.other W17 (Or.inl (Ne.symm ne_b7_b15))
              replace F_red_b15 := F_red_b15.other W17 (Or.inl (Ne.symm ne_b7_b15))
              have Zs_W17 : n0 ≤ _ := Nat.le_trans Zs_16 (Keep.of_wr W17).1
              have N17 := Fr.snoc X17 N16 g_b7
              refine own_via st17 ?_
              show OwnEnds p.tables e below _ (T17.setTop (mkF m 148 #[.val (.int p0), .val (.int p1), .val (.int p2), .val (.int n), .val (.int r0), .val (.int r1), .val (.int r2), .val (.int r3), .val (.int hg), .val (.int dr), .val (.ref b7), .val (.ref b9), .val (.ref b11), .val (.ref b13), .val (.ref b15), .unset, .unset] []))
              rw [own_narb h_r0] at F_red_b7
              refine own_via (fun t k => XS.aload X17.here hx rfl (hb hby at_148) rfl rfl k) ?_
              show OwnEnds p.tables e below _ (T17.setTop (mkF m 150 #[.val (.int p0), .val (.int p1), .val (.int p2), .val (.int n), .val (.int r0), .val (.int r1), .val (.int r2), .val (.int r3), .val (.int hg), .val (.int dr), .val (.ref b7), .val (.ref b9), .val (.ref b11), .val (.ref b13), .val (.ref b15), .unset, .unset] [(.ref b9)]))
              refine own_via (fun t k => XS.iload X17.here hx rfl (hb hby at_150) rfl k) ?_
              show OwnEnds p.tables e below _ (T17.setTop (mkF m 152 #[.val (.int p0), .val (.int p1), .val (.int p2), .val (.int n), .val (.int r0), .val (.int r1), .val (.int r2), .val (.int r3), .val (.int hg), .val (.int dr), .val (.ref b7), .val (.ref b9), .val (.ref b11), .val (.ref b13), .val (.ref b15), .unset, .unset] [(.int r1), (.ref b9)]))
              obtain ⟨T18, h18, X18, e18, W18, st18⟩ := putFN X17 hx hZ hown (hw _ (List.mem_of_getElem? (i := 15) rfl)) Via.refl e17 F_red_b9 E_b9 (Or.inl (hw _ (List.mem_of_getElem? (i := 14) rfl))) (hw _ (List.mem_of_getElem? (i := 1) rfl)) (ty := .boolean) (v' := (.int (nar .boolean r1))) (by decide) rfl (fits_nar_bool _) (g := (mkF m 152 #[.val (.int p0), .val (.int p1), .val (.int p2), .val (.int n), .val (.int r0), .val (.int r1), .val (.int r2), .val (.int r3), .val (.int hg), .val (.int dr), .val (.ref b7), .val (.ref b9), .val (.ref b11), .val (.ref b13), .val (.ref b15), .unset, .unset] [(.int r1), (.ref b9)])) rfl rfl (hb hby at_152)
              replace E_b7 := E_b7.wr W18
              replace F_left_b7 := F_left_b7.other W18 (Or.inl ne_b7_b9)
              replace F_right_b7 := F_right_b7.other W18 (Or.inl ne_b7_b9)
              replace F_red_b7 := F_red_b7.other W18 (Or.inl ne_b7_b9)
              replace E_b9 := E_b9.wr W18
              replace F_left_b9 := F_left_b9.other W18 (Or.inr (slot_ne (Or.inl (hw _ (List.mem_of_getElem? (i := 22) rfl))) (Or.inl (hw _ (List.mem_of_getElem? (i := 14) rfl))) (by decide) (t := (.object "com/example/rowan/rowan/Node")) (t' := .boolean) (by decide) (by decide)))
              replace F_right_b9 := F_right_b9.other W18 (Or.inr (slot_ne (Or.inl (hw _ (List.mem_of_getElem? (i := 20) rfl))) (Or.inl (hw _ (List.mem_of_getElem? (i := 14) rfl))) (by decide) (t := (.object "com/example/rowan/rowan/Node")) (t' := .boolean) (by decide) (by decide)))
              replace F_red_b9 := F_red_b9.same W18
              replace E_b11 := E_b11.wr W18
              replace F_left_b11 := F_left_b11.other W18 (Or.inl (Ne.symm ne_b9_b11))
              replace F_right_b11 := F_right_b11.other W18 (Or.inl (Ne.symm ne_b9_b11))
              replace F_red_b11 := F_red_b11.other W18 (Or.inl (Ne.symm ne_b9_b11))
              replace E_b13 := E_b13.wr W18
              replace F_left_b13 := F_left_b13.other W18 (Or.inl (Ne.symm ne_b9_b13))
              replace F_right_b13 := F_right_b13.other W18 (Or.inl (Ne.symm ne_b9_b13))
              replace F_red_b13 := F_red_b13.other W18 (Or.inl (Ne.symm ne_b9_b13))
              replace E_b15 := E_b15.wr W18
              replace F_left_b15 := F_left_b15.other W18 (Or.inl (Ne.symm ne_b9_b15))
              replace F_right_b15 := F_right_b15.other W18 (Or.inl (Ne.symm ne_b9_b15))
              replace F_red_b15 := F_red_b15.other W18 (Or.inl (Ne.symm ne_b9_b15))
              have Zs_W18 : n0 ≤ _ := Nat.le_trans Zs_W17 (Keep.of_wr W18).1
              have N18 := Fr.snoc X18 N17 g_b9
              refine own_via st18 ?_
              show OwnEnds p.tables e below _ (T18.setTop (mkF m 155 #[.val (.int p0), .val (.int p1), .val (.int p2), .val (.int n), .val (.int r0), .val (.int r1), .val (.int r2), .val (.int r3), .val (.int hg), .val (.int dr), .val (.ref b7), .val (.ref b9), .val (.ref b11), .val (.ref b13), .val (.ref b15), .unset, .unset] []))
              rw [own_narb h_r1] at F_red_b9
              refine own_via (fun t k => XS.aload X18.here hx rfl (hb hby at_155) rfl rfl k) ?_
              show OwnEnds p.tables e below _ (T18.setTop (mkF m 157 #[.val (.int p0), .val (.int p1), .val (.int p2), .val (.int n), .val (.int r0), .val (.int r1), .val (.int r2), .val (.int r3), .val (.int hg), .val (.int dr), .val (.ref b7), .val (.ref b9), .val (.ref b11), .val (.ref b13), .val (.ref b15), .unset, .unset] [(.ref b11)]))
              refine own_via (fun t k => XS.iload X18.here hx rfl (hb hby at_157) rfl k) ?_
              show OwnEnds p.tables e below _ (T18.setTop (mkF m 159 #[.val (.int p0), .val (.int p1), .val (.int p2), .val (.int n), .val (.int r0), .val (.int r1), .val (.int r2), .val (.int r3), .val (.int hg), .val (.int dr), .val (.ref b7), .val (.ref b9), .val (.ref b11), .val (.ref b13), .val (.ref b15), .unset, .unset] [(.int r2), (.ref b11)]))
              obtain ⟨T19, h19, X19, e19, W19, st19⟩ := putFN X18 hx hZ hown (hw _ (List.mem_of_getElem? (i := 15) rfl)) Via.refl e18 F_red_b11 E_b11 (Or.inl (hw _ (List.mem_of_getElem? (i := 14) rfl))) (hw _ (List.mem_of_getElem? (i := 1) rfl)) (ty := .boolean) (v' := (.int (nar .boolean r2))) (by decide) rfl (fits_nar_bool _) (g := (mkF m 159 #[.val (.int p0), .val (.int p1), .val (.int p2), .val (.int n), .val (.int r0), .val (.int r1), .val (.int r2), .val (.int r3), .val (.int hg), .val (.int dr), .val (.ref b7), .val (.ref b9), .val (.ref b11), .val (.ref b13), .val (.ref b15), .unset, .unset] [(.int r2), (.ref b11)])) rfl rfl (hb hby at_159)
              replace E_b7 := E_b7.wr W19
              replace F_left_b7 := F_left_b7.other W19 (Or.inl ne_b7_b11)
              replace F_right_b7 := F_right_b7.other W19 (Or.inl ne_b7_b11)
              replace F_red_b7 := F_red_b7.other W19 (Or.inl ne_b7_b11)
              replace E_b9 := E_b9.wr W19
              replace F_left_b9 := F_left_b9.other W19 (Or.inl ne_b9_b11)
              replace F_right_b9 := F_right_b9.other W19 (Or.inl ne_b9_b11)
              replace F_red_b9 := F_red_b9.other W19 (Or.inl ne_b9_b11)
              replace E_b11 := E_b11.wr W19
              replace F_left_b11 := F_left_b11.other W19 (Or.inr (slot_ne (Or.inl (hw _ (List.mem_of_getElem? (i := 22) rfl))) (Or.inl (hw _ (List.mem_of_getElem? (i := 14) rfl))) (by decide) (t := (.object "com/example/rowan/rowan/Node")) (t' := .boolean) (by decide) (by decide)))
              replace F_right_b11 := F_right_b11.other W19 (Or.inr (slot_ne (Or.inl (hw _ (List.mem_of_getElem? (i := 20) rfl))) (Or.inl (hw _ (List.mem_of_getElem? (i := 14) rfl))) (by decide) (t := (.object "com/example/rowan/rowan/Node")) (t' := .boolean) (by decide) (by decide)))
              replace F_red_b11 := F_red_b11.same W19
              replace E_b13 := E_b13.wr W19
              replace F_left_b13 := F_left_b13.other W19 (Or.inl (Ne.symm ne_b11_b13))
              replace F_right_b13 := F_right_b13.other W19 (Or.inl (Ne.symm ne_b11_b13))
              replace F_red_b13 := F_red_b13.other W19 (Or.inl (Ne.symm ne_b11_b13))
              replace E_b15 := E_b15.wr W19
              replace F_left_b15 := F_left_b15.other W19 (Or.inl (Ne.symm ne_b11_b15))
              replace F_right_b15 := F_right_b15.other W19 (Or.inl (Ne.symm ne_b11_b15))
              replace F_red_b15 := F_red_b15.other W19 (Or.inl (Ne.symm ne_b11_b15))
              have Zs_W19 : n0 ≤ _ := Nat.le_trans Zs_W18 (Keep.of_wr W19).1
              have N19 := Fr.snoc X19 N18 g_b11
              refine own_via st19 ?_
              show OwnEnds p.tables e below _ (T19.setTop (mkF m 162 #[.val (.int p0), .val (.int p1), .val (.int p2), .val (.int n), .val (.int r0), .val (.int r1), .val (.int r2), .val (.int r3), .val (.int hg), .val (.int dr), .val (.ref b7), .val (.ref b9), .val (.ref b11), .val (.ref b13), .val (.ref b15), .unset, .unset] []))
              rw [own_narb h_r2] at F_red_b11
              refine own_via (fun t k => XS.aload X19.here hx rfl (hb hby at_162) rfl rfl k) ?_
              show OwnEnds p.tables e below _ (T19.setTop (mkF m 164 #[.val (.int p0), .val (.int p1), .val (.int p2), .val (.int n), .val (.int r0), .val (.int r1), .val (.int r2), .val (.int r3), .val (.int hg), .val (.int dr), .val (.ref b7), .val (.ref b9), .val (.ref b11), .val (.ref b13), .val (.ref b15), .unset, .unset] [(.ref b13)]))
              refine own_via (fun t k => XS.iload X19.here hx rfl (hb hby at_164) rfl k) ?_
              show OwnEnds p.tables e below _ (T19.setTop (mkF m 166 #[.val (.int p0), .val (.int p1), .val (.int p2), .val (.int n), .val (.int r0), .val (.int r1), .val (.int r2), .val (.int r3), .val (.int hg), .val (.int dr), .val (.ref b7), .val (.ref b9), .val (.ref b11), .val (.ref b13), .val (.ref b15), .unset, .unset] [(.int r3), (.ref b13)]))
              obtain ⟨T20, h20, X20, e20, W20, st20⟩ := putFN X19 hx hZ hown (hw _ (List.mem_of_getElem? (i := 15) rfl)) Via.refl e19 F_red_b13 E_b13 (Or.inl (hw _ (List.mem_of_getElem? (i := 14) rfl))) (hw _ (List.mem_of_getElem? (i := 1) rfl)) (ty := .boolean) (v' := (.int (nar .boolean r3))) (by decide) rfl (fits_nar_bool _) (g := (mkF m 166 #[.val (.int p0), .val (.int p1), .val (.int p2), .val (.int n), .val (.int r0), .val (.int r1), .val (.int r2), .val (.int r3), .val (.int hg), .val (.int dr), .val (.ref b7), .val (.ref b9), .val (.ref b11), .val (.ref b13), .val (.ref b15), .unset, .unset] [(.int r3), (.ref b13)])) rfl rfl (hb hby at_166)
              replace E_b7 := E_b7.wr W20
              replace F_left_b7 := F_left_b7.other W20 (Or.inl ne_b7_b13)
              replace F_right_b7 := F_right_b7.other W20 (Or.inl ne_b7_b13)
              replace F_red_b7 := F_red_b7.other W20 (Or.inl ne_b7_b13)
              replace E_b9 := E_b9.wr W20
              replace F_left_b9 := F_left_b9.other W20 (Or.inl ne_b9_b13)
              replace F_right_b9 := F_right_b9.other W20 (Or.inl ne_b9_b13)
              replace F_red_b9 := F_red_b9.other W20 (Or.inl ne_b9_b13)
              replace E_b11 := E_b11.wr W20
              replace F_left_b11 := F_left_b11.other W20 (Or.inl ne_b11_b13)
              replace F_right_b11 := F_right_b11.other W20 (Or.inl ne_b11_b13)
              replace F_red_b11 := F_red_b11.other W20 (Or.inl ne_b11_b13)
              replace E_b13 := E_b13.wr W20
              replace F_left_b13 := F_left_b13.other W20 (Or.inr (slot_ne (Or.inl (hw _ (List.mem_of_getElem? (i := 22) rfl))) (Or.inl (hw _ (List.mem_of_getElem? (i := 14) rfl))) (by decide) (t := (.object "com/example/rowan/rowan/Node")) (t' := .boolean) (by decide) (by decide)))
              replace F_right_b13 := F_right_b13.other W20 (Or.inr (slot_ne (Or.inl (hw _ (List.mem_of_getElem? (i := 20) rfl))) (Or.inl (hw _ (List.mem_of_getElem? (i := 14) rfl))) (by decide) (t := (.object "com/example/rowan/rowan/Node")) (t' := .boolean) (by decide) (by decide)))
              replace F_red_b13 := F_red_b13.same W20
              replace E_b15 := E_b15.wr W20
              replace F_left_b15 := F_left_b15.other W20 (Or.inl (Ne.symm ne_b13_b15))
              replace F_right_b15 := F_right_b15.other W20 (Or.inl (Ne.symm ne_b13_b15))
              replace F_red_b15 := F_red_b15.other W20 (Or.inl (Ne.symm ne_b13_b15))
              have Zs_W20 : n0 ≤ _ := Nat.le_trans Zs_W19 (Keep.of_wr W20).1
              have N20 := Fr.snoc X20 N19 g_b13
              refine own_via st20 ?_
              show OwnEnds p.tables e below _ (T20.setTop (mkF m 169 #[.val (.int p0), .val (.int p1), .val (.int p2), .val (.int n), .val (.int r0), .val (.int r1), .val (.int r2), .val (.int r3), .val (.int hg), .val (.int dr), .val (.ref b7), .val (.ref b9), .val (.ref b11), .val (.ref b13), .val (.ref b15), .unset, .unset] []))
              rw [own_narb h_r3] at F_red_b13
              refine own_via (fun t k => XS.aload X20.here hx rfl (hb hby at_169) rfl rfl k) ?_
              show OwnEnds p.tables e below _ (T20.setTop (mkF m 171 #[.val (.int p0), .val (.int p1), .val (.int p2), .val (.int n), .val (.int r0), .val (.int r1), .val (.int r2), .val (.int r3), .val (.int hg), .val (.int dr), .val (.ref b7), .val (.ref b9), .val (.ref b11), .val (.ref b13), .val (.ref b15), .unset, .unset] [(.ref b15)]))
              refine own_via (fun t k => XS.iload X20.here hx rfl (hb hby at_171) rfl k) ?_
              show OwnEnds p.tables e below _ (T20.setTop (mkF m 173 #[.val (.int p0), .val (.int p1), .val (.int p2), .val (.int n), .val (.int r0), .val (.int r1), .val (.int r2), .val (.int r3), .val (.int hg), .val (.int dr), .val (.ref b7), .val (.ref b9), .val (.ref b11), .val (.ref b13), .val (.ref b15), .unset, .unset] [(.int dr), (.ref b15)]))
              obtain ⟨T21, h21, X21, e21, W21, st21⟩ := putFN X20 hx hZ hown (hw _ (List.mem_of_getElem? (i := 15) rfl)) Via.refl e20 F_red_b15 E_b15 (Or.inl (hw _ (List.mem_of_getElem? (i := 14) rfl))) (hw _ (List.mem_of_getElem? (i := 1) rfl)) (ty := .boolean) (v' := (.int (nar .boolean dr))) (by decide) rfl (fits_nar_bool _) (g := (mkF m 173 #[.val (.int p0), .val (.int p1), .val (.int p2), .val (.int n), .val (.int r0), .val (.int r1), .val (.int r2), .val (.int r3), .val (.int hg), .val (.int dr), .val (.ref b7), .val (.ref b9), .val (.ref b11), .val (.ref b13), .val (.ref b15), .unset, .unset] [(.int dr), (.ref b15)])) rfl rfl (hb hby at_173)
              replace E_b7 := E_b7.wr W21
              replace F_left_b7 := F_left_b7.other W21 (Or.inl ne_b7_b15)
              replace F_right_b7 := F_right_b7.other W21 (Or.inl ne_b7_b15)
              replace F_red_b7 := F_red_b7.other W21 (Or.inl ne_b7_b15)
              replace E_b9 := E_b9.wr W21
              replace F_left_b9 := F_left_b9.other W21 (Or.inl ne_b9_b15)
              replace F_right_b9 := F_right_b9.other W21 (Or.inl ne_b9_b15)
              replace F_red_b9 := F_red_b9.other W21 (Or.inl ne_b9_b15)
              replace E_b11 := E_b11.wr W21
              replace F_left_b11 := F_left_b11.other W21 (Or.inl ne_b11_b15)
              replace F_right_b11 := F_right_b11.other W21 (Or.inl ne_b11_b15)
              replace F_red_b11 := F_red_b11.other W21 (Or.inl ne_b11_b15)
              replace E_b13 := E_b13.wr W21
              replace F_left_b13 := F_left_b13.other W21 (Or.inl ne_b13_b15)
              replace F_right_b13 := F_right_b13.other W21 (Or.inl ne_b13_b15)
              replace F_red_b13 := F_red_b13.other W21 (Or.inl ne_b13_b15)
              replace E_b15 := E_b15.wr W21
              replace F_left_b15 := F_left_b15.other W21 (Or.inr (slot_ne (Or.inl (hw _ (List.mem_of_getElem? (i := 22) rfl))) (Or.inl (hw _ (List.mem_of_getElem? (i := 14) rfl))) (by decide) (t := (.object "com/example/rowan/rowan/Node")) (t' := .boolean) (by decide) (by decide)))
              replace F_right_b15 := F_right_b15.other W21 (Or.inr (slot_ne (Or.inl (hw _ (List.mem_of_getElem? (i := 20) rfl))) (Or.inl (hw _ (List.mem_of_getElem? (i := 14) rfl))) (by decide) (t := (.object "com/example/rowan/rowan/Node")) (t' := .boolean) (by decide) (by decide)))
              replace F_red_b15 := F_red_b15.same W21
              have Zs_W21 : n0 ≤ _ := Nat.le_trans Zs_W20 (Keep.of_wr W21).1
              have N21 := Fr.snoc X21 N20 g_b15
              refine own_via st21 ?_
              show OwnEnds p.tables e below _ (T21.setTop (mkF m 176 #[.val (.int p0), .val (.int p1), .val (.int p2), .val (.int n), .val (.int r0), .val (.int r1), .val (.int r2), .val (.int r3), .val (.int hg), .val (.int dr), .val (.ref b7), .val (.ref b9), .val (.ref b11), .val (.ref b13), .val (.ref b15), .unset, .unset] []))
              rw [own_narb h_dr] at F_red_b15
              rcases own_n h_n with q | q | q | q | q
              · skip
                subst q
                show OwnEnds p.tables e below _ (T21.setTop (mkF m 176 #[.val (.int p0), .val (.int p1), .val (.int p2), .val (.int (0 : Int32)), .val (.int r0), .val (.int r1), .val (.int r2), .val (.int r3), .val (.int hg), .val (.int dr), .val (.ref b7), .val (.ref b9), .val (.ref b11), .val (.ref b13), .val (.ref b15), .unset, .unset] []))
                refine own_via (fun t k => XS.iloadN X21.here hx rfl (hb hby at_176) rfl k) ?_
                show OwnEnds p.tables e below _ (T21.setTop (mkF m 177 #[.val (.int p0), .val (.int p1), .val (.int p2), .val (.int (0 : Int32)), .val (.int r0), .val (.int r1), .val (.int r2), .val (.int r3), .val (.int hg), .val (.int dr), .val (.ref b7), .val (.ref b9), .val (.ref b11), .val (.ref b13), .val (.ref b15), .unset, .unset] [(.int (0 : Int32))]))
                refine own_via (fun t k => XS.iconst X21.here hx rfl (hb hby at_177) k) ?_
                show OwnEnds p.tables e below _ (T21.setTop (mkF m 178 #[.val (.int p0), .val (.int p1), .val (.int p2), .val (.int (0 : Int32)), .val (.int r0), .val (.int r1), .val (.int r2), .val (.int r3), .val (.int hg), .val (.int dr), .val (.ref b7), .val (.ref b9), .val (.ref b11), .val (.ref b13), .val (.ref b15), .unset, .unset] [(.int (2 : Int32)), (.int (0 : Int32))]))
                have hc178_22 : (0 : Int32) < (2 : Int32) := by decide
                refine own_via (fun t k => XS.icmpYes X21.here hx rfl (pc0 := 178) (pc' := 188) rfl (hb hby at_178) rfl (tlt hc178_22).1 (by decide) (by decide) k) ?_
                show OwnEnds p.tables e below _ (T21.setTop (mkF m 188 #[.val (.int p0), .val (.int p1), .val (.int p2), .val (.int (0 : Int32)), .val (.int r0), .val (.int r1), .val (.int r2), .val (.int r3), .val (.int hg), .val (.int dr), .val (.ref b7), .val (.ref b9), .val (.ref b11), .val (.ref b13), .val (.ref b15), .unset, .unset] []))
                refine own_via (fun t k => XS.iloadN X21.here hx rfl (hb hby at_188) rfl k) ?_
                show OwnEnds p.tables e below _ (T21.setTop (mkF m 189 #[.val (.int p0), .val (.int p1), .val (.int p2), .val (.int (0 : Int32)), .val (.int r0), .val (.int r1), .val (.int r2), .val (.int r3), .val (.int hg), .val (.int dr), .val (.ref b7), .val (.ref b9), .val (.ref b11), .val (.ref b13), .val (.ref b15), .unset, .unset] [(.int (0 : Int32))]))
                refine own_via (fun t k => XS.iconst X21.here hx rfl (hb hby at_189) k) ?_
                show OwnEnds p.tables e below _ (T21.setTop (mkF m 190 #[.val (.int p0), .val (.int p1), .val (.int p2), .val (.int (0 : Int32)), .val (.int r0), .val (.int r1), .val (.int r2), .val (.int r3), .val (.int hg), .val (.int dr), .val (.ref b7), .val (.ref b9), .val (.ref b11), .val (.ref b13), .val (.ref b15), .unset, .unset] [(.int (3 : Int32)), (.int (0 : Int32))]))
                have hc190_23 : (0 : Int32) < (3 : Int32) := by decide
                refine own_via (fun t k => XS.icmpYes X21.here hx rfl (pc0 := 190) (pc' := 200) rfl (hb hby at_190) rfl (tlt hc190_23).1 (by decide) (by decide) k) ?_
                show OwnEnds p.tables e below _ (T21.setTop (mkF m 200 #[.val (.int p0), .val (.int p1), .val (.int p2), .val (.int (0 : Int32)), .val (.int r0), .val (.int r1), .val (.int r2), .val (.int r3), .val (.int hg), .val (.int dr), .val (.ref b7), .val (.ref b9), .val (.ref b11), .val (.ref b13), .val (.ref b15), .unset, .unset] []))
                refine own_via (fun t k => XS.iloadN X21.here hx rfl (hb hby at_200) rfl k) ?_
                show OwnEnds p.tables e below _ (T21.setTop (mkF m 201 #[.val (.int p0), .val (.int p1), .val (.int p2), .val (.int (0 : Int32)), .val (.int r0), .val (.int r1), .val (.int r2), .val (.int r3), .val (.int hg), .val (.int dr), .val (.ref b7), .val (.ref b9), .val (.ref b11), .val (.ref b13), .val (.ref b15), .unset, .unset] [(.int (0 : Int32))]))
                refine own_via (fun t k => XS.iconst X21.here hx rfl (hb hby at_201) k) ?_
                show OwnEnds p.tables e below _ (T21.setTop (mkF m 202 #[.val (.int p0), .val (.int p1), .val (.int p2), .val (.int (0 : Int32)), .val (.int r0), .val (.int r1), .val (.int r2), .val (.int r3), .val (.int hg), .val (.int dr), .val (.ref b7), .val (.ref b9), .val (.ref b11), .val (.ref b13), .val (.ref b15), .unset, .unset] [(.int (4 : Int32)), (.int (0 : Int32))]))
                have hc202_24 : (0 : Int32) < (4 : Int32) := by decide
                refine own_via (fun t k => XS.icmpYes X21.here hx rfl (pc0 := 202) (pc' := 212) rfl (hb hby at_202) rfl (tlt hc202_24).1 (by decide) (by decide) k) ?_
                show OwnEnds p.tables e below _ (T21.setTop (mkF m 212 #[.val (.int p0), .val (.int p1), .val (.int p2), .val (.int (0 : Int32)), .val (.int r0), .val (.int r1), .val (.int r2), .val (.int r3), .val (.int hg), .val (.int dr), .val (.ref b7), .val (.ref b9), .val (.ref b11), .val (.ref b13), .val (.ref b15), .unset, .unset] []))
                refine own_via (fun t k => XS.iload X21.here hx rfl (hb hby at_212) rfl k) ?_
                show OwnEnds p.tables e below _ (T21.setTop (mkF m 214 #[.val (.int p0), .val (.int p1), .val (.int p2), .val (.int (0 : Int32)), .val (.int r0), .val (.int r1), .val (.int r2), .val (.int r3), .val (.int hg), .val (.int dr), .val (.ref b7), .val (.ref b9), .val (.ref b11), .val (.ref b13), .val (.ref b15), .unset, .unset] [(.int hg)]))
                have J245_25 : ∀ (TJ245_25 : State) (hJ245_25 : Heap) (locsJ245_25 : List Loc), Stand p l e room_1 s m #[(.int p0), (.int p1), (.int p2)] below meth c TJ245_25 locsJ245_25 5 35 → TJ245_25.heap = hJ245_25 → Fr n0 locsJ245_25 → n0 ≤ hJ245_25.size → Exa Z hJ245_25 b7 "com/example/rowan/rowan/Node" → Fld Z hJ245_25 b7 "com/example/rowan/rowan/Node" "left" "Lcom/example/rowan/rowan/Node;" .null → Fld Z hJ245_25 b7 "com/example/rowan/rowan/Node" "red" "Z" (.int r0) → Exa Z hJ245_25 b9 "com/example/rowan/rowan/Node" → Fld Z hJ245_25 b9 "com/example/rowan/rowan/Node" "left" "Lcom/example/rowan/rowan/Node;" .null → Fld Z hJ245_25 b9 "com/example/rowan/rowan/Node" "red" "Z" (.int r1) → Exa Z hJ245_25 b11 "com/example/rowan/rowan/Node" → Fld Z hJ245_25 b11 "com/example/rowan/rowan/Node" "left" "Lcom/example/rowan/rowan/Node;" .null → Fld Z hJ245_25 b11 "com/example/rowan/rowan/Node" "red" "Z" (.int r2) → Exa Z hJ245_25 b13 "com/example/rowan/rowan/Node" → Fld Z hJ245_25 b13 "com/example/rowan/rowan/Node" "left" "Lcom/example/rowan/rowan/Node;" .null → Fld Z hJ245_25 b13 "com/example/rowan/rowan/Node" "red" "Z" (.int r3) → Exa Z hJ245_25 b15 "com/example/rowan/rowan/Node" → Fld Z hJ245_25 b15 "com/example/rowan/rowan/Node" "left" "Lcom/example/rowan/rowan/Node;" .null → Fld Z hJ245_25 b15 "com/example/rowan/rowan/Node" "red" "Z" (.int dr) → OwnEnds p.tables e below (OwnQ s 24 192 (Q0 Z p0 p1 p2 h0 n0)) (TJ245_25.setTop (mkF m 245 #[.val (.int p0), .val (.int p1), .val (.int p2), .val (.int (0 : Int32)), .val (.int r0), .val (.int r1), .val (.int r2), .val (.int r3), .val (.int hg), .val (.int dr), .val (.ref b7), .val (.ref b9), .val (.ref b11), .val (.ref b13), .val (.ref b15), .unset, .unset] [])) := by
                  intro TJ245_25 hJ245_25 locsJ245_25 XJ245_25 eJ245_25 NJ245_25 ZsJ245_25 E_b7 F_left_b7 F_red_b7 E_b9 F_left_b9 F_red_b9 E_b11 F_left_b11 F_red_b11 E_b13 F_left_b13 F_red_b13 E_b15 F_left_b15 F_red_b15
                  refine own_via (fun t k => XS.iloadN XJ245_25.here hx rfl (hb hby at_245) rfl k) ?_
                  show OwnEnds p.tables e below _ (TJ245_25.setTop (mkF m 246 #[.val (.int p0), .val (.int p1), .val (.int p2), .val (.int (0 : Int32)), .val (.int r0), .val (.int r1), .val (.int r2), .val (.int r3), .val (.int hg), .val (.int dr), .val (.ref b7), .val (.ref b9), .val (.ref b11), .val (.ref b13), .val (.ref b15), .unset, .unset] [(.int (0 : Int32))]))
                  have hc246_26 : (0 : Int32) = (0 : Int32) := by decide
                  refine own_via (fun t k => XS.ifNo XJ245_25.here hx rfl (hb hby at_246) rfl ((if0 _ _).trans (teq hc246_26).2) k) ?_
                  show OwnEnds p.tables e below _ (TJ245_25.setTop (mkF m 249 #[.val (.int p0), .val (.int p1), .val (.int p2), .val (.int (0 : Int32)), .val (.int r0), .val (.int r1), .val (.int r2), .val (.int r3), .val (.int hg), .val (.int dr), .val (.ref b7), .val (.ref b9), .val (.ref b11), .val (.ref b13), .val (.ref b15), .unset, .unset] []))
                  refine own_via (fun t k => XS.aconstNull XJ245_25.here hx rfl (hb hby at_249) k) ?_
                  show OwnEnds p.tables e below _ (TJ245_25.setTop (mkF m 250 #[.val (.int p0), .val (.int p1), .val (.int p2), .val (.int (0 : Int32)), .val (.int r0), .val (.int r1), .val (.int r2), .val (.int r3), .val (.int hg), .val (.int dr), .val (.ref b7), .val (.ref b9), .val (.ref b11), .val (.ref b13), .val (.ref b15), .unset, .unset] [.null]))
                  refine own_via (fun t k => XS.goto XJ245_25.here hx rfl (pc0 := 250) (pc' := 255) rfl (hb hby at_250) (by decide) (by decide) k) ?_
                  show OwnEnds p.tables e below _ (TJ245_25.setTop (mkF m 255 #[.val (.int p0), .val (.int p1), .val (.int p2), .val (.int (0 : Int32)), .val (.int r0), .val (.int r1), .val (.int r2), .val (.int r3), .val (.int hg), .val (.int dr), .val (.ref b7), .val (.ref b9), .val (.ref b11), .val (.ref b13), .val (.ref b15), .unset, .unset] [.null]))
                  refine own_via (fun t k => XS.astore XJ245_25.here hx rfl (hb hby at_255) rfl rfl (l' := #[.val (.int p0), .val (.int p1), .val (.int p2), .val (.int (0 : Int32)), .val (.int r0), .val (.int r1), .val (.int r2), .val (.int r3), .val (.int hg), .val (.int dr), .val (.ref b7), .val (.ref b9), .val (.ref b11), .val (.ref b13), .val (.ref b15), .val .null, .unset]) rfl k) ?_
                  show OwnEnds p.tables e below _ (TJ245_25.setTop (mkF m 257 #[.val (.int p0), .val (.int p1), .val (.int p2), .val (.int (0 : Int32)), .val (.int r0), .val (.int r1), .val (.int r2), .val (.int r3), .val (.int hg), .val (.int dr), .val (.ref b7), .val (.ref b9), .val (.ref b11), .val (.ref b13), .val (.ref b15), .val .null, .unset] []))
                  refine own_via (fun t k => XS.iconst XJ245_25.here hx rfl (hb hby at_257) k) ?_
                  show OwnEnds p.tables e below _ (TJ245_25.setTop (mkF m 258 #[.val (.int p0), .val (.int p1), .val (.int p2), .val (.int (0 : Int32)), .val (.int r0), .val (.int r1), .val (.int r2), .val (.int r3), .val (.int hg), .val (.int dr), .val (.ref b7), .val (.ref b9), .val (.ref b11), .val (.ref b13), .val (.ref b15), .val .null, .unset] [(.int (0 : Int32))]))
                  refine own_via (fun t k => XS.istore XJ245_25.here hx rfl (hb hby at_258) rfl (l' := #[.val (.int p0), .val (.int p1), .val (.int p2), .val (.int (0 : Int32)), .val (.int r0), .val (.int r1), .val (.int r2), .val (.int r3), .val (.int hg), .val (.int dr), .val (.ref b7), .val (.ref b9), .val (.ref b11), .val (.ref b13), .val (.ref b15), .val .null, .val (.int (0 : Int32))]) rfl k) ?_
                  show OwnEnds p.tables e below _ (TJ245_25.setTop (mkF m 260 #[.val (.int p0), .val (.int p1), .val (.int p2), .val (.int (0 : Int32)), .val (.int r0), .val (.int r1), .val (.int r2), .val (.int r3), .val (.int hg), .val (.int dr), .val (.ref b7), .val (.ref b9), .val (.ref b11), .val (.ref b13), .val (.ref b15), .val .null, .val (.int (0 : Int32))] []))
                  refine own_via (fun t k => XS.iloadN XJ245_25.here hx rfl (hb hby at_260) rfl k) ?_
                  show OwnEnds p.tables e below _ (TJ245_25.setTop (mkF m 261 #[.val (.int p0), .val (.int p1), .val (.int p2), .val (.int (0 : Int32)), .val (.int r0), .val (.int r1), .val (.int r2), .val (.int r3), .val (.int hg), .val (.int dr), .val (.ref b7), .val (.ref b9), .val (.ref b11), .val (.ref b13), .val (.ref b15), .val .null, .val (.int (0 : Int32))] [(.int (0 : Int32))]))
                  refine own_via (fun t k => XS.iconst XJ245_25.here hx rfl (hb hby at_261) k) ?_
                  show OwnEnds p.tables e below _ (TJ245_25.setTop (mkF m 262 #[.val (.int p0), .val (.int p1), .val (.int p2), .val (.int (0 : Int32)), .val (.int r0), .val (.int r1), .val (.int r2), .val (.int r3), .val (.int hg), .val (.int dr), .val (.ref b7), .val (.ref b9), .val (.ref b11), .val (.ref b13), .val (.ref b15), .val .null, .val (.int (0 : Int32))] [(.int (1 : Int32)), (.int (0 : Int32))]))
                  have hc262_27 : (0 : Int32) < (1 : Int32) := by decide
                  refine own_via (fun t k => XS.icmpYes XJ245_25.here hx rfl (pc0 := 262) (pc' := 273) rfl (hb hby at_262) rfl (tlt hc262_27).1 (by decide) (by decide) k) ?_
                  show OwnEnds p.tables e below _ (TJ245_25.setTop (mkF m 273 #[.val (.int p0), .val (.int p1), .val (.int p2), .val (.int (0 : Int32)), .val (.int r0), .val (.int r1), .val (.int r2), .val (.int r3), .val (.int hg), .val (.int dr), .val (.ref b7), .val (.ref b9), .val (.ref b11), .val (.ref b13), .val (.ref b15), .val .null, .val (.int (0 : Int32))] []))
                  refine own_via (fun t k => XS.iloadN XJ245_25.here hx rfl (hb hby at_273) rfl k) ?_
                  show OwnEnds p.tables e below _ (TJ245_25.setTop (mkF m 274 #[.val (.int p0), .val (.int p1), .val (.int p2), .val (.int (0 : Int32)), .val (.int r0), .val (.int r1), .val (.int r2), .val (.int r3), .val (.int hg), .val (.int dr), .val (.ref b7), .val (.ref b9), .val (.ref b11), .val (.ref b13), .val (.ref b15), .val .null, .val (.int (0 : Int32))] [(.int (0 : Int32))]))
                  refine own_via (fun t k => XS.iconst XJ245_25.here hx rfl (hb hby at_274) k) ?_
                  show OwnEnds p.tables e below _ (TJ245_25.setTop (mkF m 275 #[.val (.int p0), .val (.int p1), .val (.int p2), .val (.int (0 : Int32)), .val (.int r0), .val (.int r1), .val (.int r2), .val (.int r3), .val (.int hg), .val (.int dr), .val (.ref b7), .val (.ref b9), .val (.ref b11), .val (.ref b13), .val (.ref b15), .val .null, .val (.int (0 : Int32))] [(.int (2 : Int32)), (.int (0 : Int32))]))
                  have hc275_28 : (0 : Int32) < (2 : Int32) := by decide
                  refine own_via (fun t k => XS.icmpYes XJ245_25.here hx rfl (pc0 := 275) (pc' := 286) rfl (hb hby at_275) rfl (tlt hc275_28).1 (by decide) (by decide) k) ?_
                  show OwnEnds p.tables e below _ (TJ245_25.setTop (mkF m 286 #[.val (.int p0), .val (.int p1), .val (.int p2), .val (.int (0 : Int32)), .val (.int r0), .val (.int r1), .val (.int r2), .val (.int r3), .val (.int hg), .val (.int dr), .val (.ref b7), .val (.ref b9), .val (.ref b11), .val (.ref b13), .val (.ref b15), .val .null, .val (.int (0 : Int32))] []))
                  refine own_via (fun t k => XS.iloadN XJ245_25.here hx rfl (hb hby at_286) rfl k) ?_
                  show OwnEnds p.tables e below _ (TJ245_25.setTop (mkF m 287 #[.val (.int p0), .val (.int p1), .val (.int p2), .val (.int (0 : Int32)), .val (.int r0), .val (.int r1), .val (.int r2), .val (.int r3), .val (.int hg), .val (.int dr), .val (.ref b7), .val (.ref b9), .val (.ref b11), .val (.ref b13), .val (.ref b15), .val .null, .val (.int (0 : Int32))] [(.int (0 : Int32))]))
                  refine own_via (fun t k => XS.iconst XJ245_25.here hx rfl (hb hby at_287) k) ?_
                  show OwnEnds p.tables e below _ (TJ245_25.setTop (mkF m 288 #[.val (.int p0), .val (.int p1), .val (.int p2), .val (.int (0 : Int32)), .val (.int r0), .val (.int r1), .val (.int r2), .val (.int r3), .val (.int hg), .val (.int dr), .val (.ref b7), .val (.ref b9), .val (.ref b11), .val (.ref b13), .val (.ref b15), .val .null, .val (.int (0 : Int32))] [(.int (3 : Int32)), (.int (0 : Int32))]))
                  have hc288_29 : (0 : Int32) < (3 : Int32) := by decide
                  refine own_via (fun t k => XS.icmpYes XJ245_25.here hx rfl (pc0 := 288) (pc' := 299) rfl (hb hby at_288) rfl (tlt hc288_29).1 (by decide) (by decide) k) ?_
                  show OwnEnds p.tables e below _ (TJ245_25.setTop (mkF m 299 #[.val (.int p0), .val (.int p1), .val (.int p2), .val (.int (0 : Int32)), .val (.int r0), .val (.int r1), .val (.int r2), .val (.int r3), .val (.int hg), .val (.int dr), .val (.ref b7), .val (.ref b9), .val (.ref b11), .val (.ref b13), .val (.ref b15), .val .null, .val (.int (0 : Int32))] []))
                  refine own_via (fun t k => XS.iloadN XJ245_25.here hx rfl (hb hby at_299) rfl k) ?_
                  show OwnEnds p.tables e below _ (TJ245_25.setTop (mkF m 300 #[.val (.int p0), .val (.int p1), .val (.int p2), .val (.int (0 : Int32)), .val (.int r0), .val (.int r1), .val (.int r2), .val (.int r3), .val (.int hg), .val (.int dr), .val (.ref b7), .val (.ref b9), .val (.ref b11), .val (.ref b13), .val (.ref b15), .val .null, .val (.int (0 : Int32))] [(.int (0 : Int32))]))
                  refine own_via (fun t k => XS.iconst XJ245_25.here hx rfl (hb hby at_300) k) ?_
                  show OwnEnds p.tables e below _ (TJ245_25.setTop (mkF m 301 #[.val (.int p0), .val (.int p1), .val (.int p2), .val (.int (0 : Int32)), .val (.int r0), .val (.int r1), .val (.int r2), .val (.int r3), .val (.int hg), .val (.int dr), .val (.ref b7), .val (.ref b9), .val (.ref b11), .val (.ref b13), .val (.ref b15), .val .null, .val (.int (0 : Int32))] [(.int (4 : Int32)), (.int (0 : Int32))]))
                  have hc301_30 : (0 : Int32) < (4 : Int32) := by decide
                  refine own_via (fun t k => XS.icmpYes XJ245_25.here hx rfl (pc0 := 301) (pc' := 312) rfl (hb hby at_301) rfl (tlt hc301_30).1 (by decide) (by decide) k) ?_
                  show OwnEnds p.tables e below _ (TJ245_25.setTop (mkF m 312 #[.val (.int p0), .val (.int p1), .val (.int p2), .val (.int (0 : Int32)), .val (.int r0), .val (.int r1), .val (.int r2), .val (.int r3), .val (.int hg), .val (.int dr), .val (.ref b7), .val (.ref b9), .val (.ref b11), .val (.ref b13), .val (.ref b15), .val .null, .val (.int (0 : Int32))] []))
                  refine own_via (fun t k => XS.aload XJ245_25.here hx rfl (hb hby at_312) rfl rfl k) ?_
                  show OwnEnds p.tables e below _ (TJ245_25.setTop (mkF m 314 #[.val (.int p0), .val (.int p1), .val (.int p2), .val (.int (0 : Int32)), .val (.int r0), .val (.int r1), .val (.int r2), .val (.int r3), .val (.int hg), .val (.int dr), .val (.ref b7), .val (.ref b9), .val (.ref b11), .val (.ref b13), .val (.ref b15), .val .null, .val (.int (0 : Int32))] [.null]))
                  obtain ⟨_, _, ⟨T31, L31, k31, n31⟩, -, X31, ⟨Lc31, hQ31, l31, y31, z31⟩, st31⟩ := Jvm.LawKit.callS XJ245_25 hx (y := (⟨"com/example/rowan/rowan/Node", "blackHeight", "(Lcom/example/rowan/rowan/Node;)I"⟩ : MethodName)) hown (mvT hZ (hw _ (List.mem_of_getElem? (i := 16) rfl))) (mvT hZ (hw _ (List.mem_of_getElem? (i := 17) rfl))) (mvT hZ (hw _ (List.mem_of_getElem? (i := 2) rfl))) (mvT hZ (hw _ (List.mem_of_getElem? (i := 18) rfl))) (by decide) (backOf (W := 0) (rm3 l Z aw hw [] .null [] hJ245_25 n0 ZsJ245_25 (rfl : OwnCh Z hJ245_25 .null []) rfl) hZ (hw _ (List.mem_of_getElem? (i := 18) rfl)) (hw _ (List.mem_of_getElem? (i := 2) rfl)) (by decide) (by decide)) (g := (mkF m 314 #[.val (.int p0), .val (.int p1), .val (.int p2), .val (.int (0 : Int32)), .val (.int r0), .val (.int r1), .val (.int r2), .val (.int r3), .val (.int hg), .val (.int dr), .val (.ref b7), .val (.ref b9), .val (.ref b11), .val (.ref b13), .val (.ref b15), .val .null, .val (.int (0 : Int32))] [.null])) rfl (by rw [hml]; rfl) (argsL := [.null]) (rest := []) (lenOf pd_1 rfl) rfl (by show 2 * 0 + _ ≤ _; exact Nat.le_of_eq rfl) (hb hby at_314) (fun _ _ => ⟨rfl, eJ245_25, (by decide : 5 + 0 ≤ _), (by decide : 35 + 0 ≤ _)⟩)
                  dsimp only [Pt.U, Pt.locs, Pt.cells, Pt.slots] at X31 l31 y31 z31 st31 hQ31
                  subst l31 y31 z31
                  obtain ⟨rfl, Nq31, e31⟩ := hQ31
                  have N31 := Fr.app NJ245_25 Nq31
                  replace e31 : T31.heap = hJ245_25 := e31
                  refine own_via st31 ?_
                  show OwnEnds p.tables e below _ (T31.setTop (mkF m 317 #[.val (.int p0), .val (.int p1), .val (.int p2), .val (.int (0 : Int32)), .val (.int r0), .val (.int r1), .val (.int r2), .val (.int r3), .val (.int hg), .val (.int dr), .val (.ref b7), .val (.ref b9), .val (.ref b11), .val (.ref b13), .val (.ref b15), .val .null, .val (.int (0 : Int32))] [(.int (own_bh []))]))
                  refine own_via (fun t k => XS.iload X31.here hx rfl (hb hby at_317) rfl k) ?_
                  show OwnEnds p.tables e below _ (T31.setTop (mkF m 319 #[.val (.int p0), .val (.int p1), .val (.int p2), .val (.int (0 : Int32)), .val (.int r0), .val (.int r1), .val (.int r2), .val (.int r3), .val (.int hg), .val (.int dr), .val (.ref b7), .val (.ref b9), .val (.ref b11), .val (.ref b13), .val (.ref b15), .val .null, .val (.int (0 : Int32))] [(.int (0 : Int32)), (.int (own_bh []))]))
                  have hc319_32 : (own_bh []) = (0 : Int32) := rfl
                  refine own_via (fun t k => XS.icmpNo X31.here hx rfl (hb hby at_319) rfl (teq hc319_32).2 k) ?_
                  show OwnEnds p.tables e below _ (T31.setTop (mkF m 322 #[.val (.int p0), .val (.int p1), .val (.int p2), .val (.int (0 : Int32)), .val (.int r0), .val (.int r1), .val (.int r2), .val (.int r3), .val (.int hg), .val (.int dr), .val (.ref b7), .val (.ref b9), .val (.ref b11), .val (.ref b13), .val (.ref b15), .val .null, .val (.int (0 : Int32))] []))
                  refine own_via (fun t k => XS.iconst X31.here hx rfl (hb hby at_322) k) ?_
                  show OwnEnds p.tables e below _ (T31.setTop (mkF m 323 #[.val (.int p0), .val (.int p1), .val (.int p2), .val (.int (0 : Int32)), .val (.int r0), .val (.int r1), .val (.int r2), .val (.int r3), .val (.int hg), .val (.int dr), .val (.ref b7), .val (.ref b9), .val (.ref b11), .val (.ref b13), .val (.ref b15), .val .null, .val (.int (0 : Int32))] [(.int (1 : Int32))]))
                  refine own_via (fun t k => XS.goto X31.here hx rfl (pc0 := 323) (pc' := 327) rfl (hb hby at_323) (by decide) (by decide) k) ?_
                  show OwnEnds p.tables e below _ (T31.setTop (mkF m 327 #[.val (.int p0), .val (.int p1), .val (.int p2), .val (.int (0 : Int32)), .val (.int r0), .val (.int r1), .val (.int r2), .val (.int r3), .val (.int hg), .val (.int dr), .val (.ref b7), .val (.ref b9), .val (.ref b11), .val (.ref b13), .val (.ref b15), .val .null, .val (.int (0 : Int32))] [(.int (1 : Int32))]))
                  refine own_retN (t := .boolean) X31 hx Bd.returns (by simp) hlk (hb hby at_327) ?_ (by decide) (by decide)
                  rw [e31]
                  exact ⟨rfl, N31⟩
                by_cases hc214_33 : hg = (0 : Int32)
                · skip
                  refine own_via (fun t k => XS.ifYes X21.here hx rfl (pc0 := 214) (pc' := 245) rfl (hb hby at_214) rfl ((if0 _ _).trans (teq hc214_33).1) (by decide) (by decide) k) ?_
                  show OwnEnds p.tables e below _ (T21.setTop (mkF m 245 #[.val (.int p0), .val (.int p1), .val (.int p2), .val (.int (0 : Int32)), .val (.int r0), .val (.int r1), .val (.int r2), .val (.int r3), .val (.int hg), .val (.int dr), .val (.ref b7), .val (.ref b9), .val (.ref b11), .val (.ref b13), .val (.ref b15), .unset, .unset] []))
                  exact J245_25 _ _ _ (own_wide X21 (by decide) (by decide)) e21 N21 Zs_W21 E_b7 F_left_b7 F_red_b7 E_b9 F_left_b9 F_red_b9 E_b11 F_left_b11 F_red_b11 E_b13 F_left_b13 F_red_b13 E_b15 F_left_b15 F_red_b15
                · skip
                  refine own_via (fun t k => XS.ifNo X21.here hx rfl (hb hby at_214) rfl ((if0 _ _).trans (feq hc214_33).1) k) ?_
                  show OwnEnds p.tables e below _ (T21.setTop (mkF m 217 #[.val (.int p0), .val (.int p1), .val (.int p2), .val (.int (0 : Int32)), .val (.int r0), .val (.int r1), .val (.int r2), .val (.int r3), .val (.int hg), .val (.int dr), .val (.ref b7), .val (.ref b9), .val (.ref b11), .val (.ref b13), .val (.ref b15), .unset, .unset] []))
                  refine own_via (fun t k => XS.aload X21.here hx rfl (hb hby at_217) rfl rfl k) ?_
                  show OwnEnds p.tables e below _ (T21.setTop (mkF m 219 #[.val (.int p0), .val (.int p1), .val (.int p2), .val (.int (0 : Int32)), .val (.int r0), .val (.int r1), .val (.int r2), .val (.int r3), .val (.int hg), .val (.int dr), .val (.ref b7), .val (.ref b9), .val (.ref b11), .val (.ref b13), .val (.ref b15), .unset, .unset] [(.ref b7)]))
                  refine own_via (fun t k => XS.aload X21.here hx rfl (hb hby at_219) rfl rfl k) ?_
                  show OwnEnds p.tables e below _ (T21.setTop (mkF m 221 #[.val (.int p0), .val (.int p1), .val (.int p2), .val (.int (0 : Int32)), .val (.int r0), .val (.int r1), .val (.int r2), .val (.int r3), .val (.int hg), .val (.int dr), .val (.ref b7), .val (.ref b9), .val (.ref b11), .val (.ref b13), .val (.ref b15), .unset, .unset] [(.ref b15), (.ref b7)]))
                  obtain ⟨T34, h34, X34, e34, W34, st34⟩ := putF X21 hx hZ hown (host := "") (Or.inl (hw _ (List.mem_of_getElem? (i := 19) rfl))) Via.refl e21 F_right_b7 E_b7 (Or.inl (hw _ (List.mem_of_getElem? (i := 20) rfl))) (hw _ (List.mem_of_getElem? (i := 1) rfl)) (ty := (.object "com/example/rowan/rowan/Node")) (by decide) rfl rfl (g := (mkF m 221 #[.val (.int p0), .val (.int p1), .val (.int p2), .val (.int (0 : Int32)), .val (.int r0), .val (.int r1), .val (.int r2), .val (.int r3), .val (.int hg), .val (.int dr), .val (.ref b7), .val (.ref b9), .val (.ref b11), .val (.ref b13), .val (.ref b15), .unset, .unset] [(.ref b15), (.ref b7)])) rfl rfl (hb hby at_221)
                  replace E_b7 := E_b7.wr W34
                  replace F_left_b7 := F_left_b7.other W34 (Or.inr (slot_ne (Or.inl (hw _ (List.mem_of_getElem? (i := 22) rfl))) (Or.inl (hw _ (List.mem_of_getElem? (i := 20) rfl))) (by decide) (t := (.object "com/example/rowan/rowan/Node")) (t' := (.object "com/example/rowan/rowan/Node")) (by decide) (by decide)))
                  replace F_right_b7 := F_right_b7.same W34
                  replace F_red_b7 := F_red_b7.other W34 (Or.inr (slot_ne (Or.inl (hw _ (List.mem_of_getElem? (i := 14) rfl))) (Or.inl (hw _ (List.mem_of_getElem? (i := 20) rfl))) (by decide) (t := .boolean) (t' := (.object "com/example/rowan/rowan/Node")) (by decide) (by decide)))
                  replace E_b9 := E_b9.wr W34
                  replace F_left_b9 := F_left_b9.other W34 (Or.inl (Ne.symm ne_b7_b9))
                  replace F_right_b9 := F_right_b9.other W34 (Or.inl (Ne.symm ne_b7_b9))
                  replace F_red_b9 := F_red_b9.other W34 (Or.inl (Ne.symm ne_b7_b9))
                  replace E_b11 := E_b11.wr W34
                  replace F_left_b11 := F_left_b11.other W34 (Or.inl (Ne.symm ne_b7_b11))
                  replace F_right_b11 := F_right_b11.other W34 (Or.inl (Ne.symm ne_b7_b11))
                  replace F_red_b11 := F_red_b11.other W34 (Or.inl (Ne.symm ne_b7_b11))
                  replace E_b13 := E_b13.wr W34
                  replace F_left_b13 := F_left_b13.other W34 (Or.inl (Ne.symm ne_b7_b13))
                  replace F_right_b13 := F_right_b13.other W34 (Or.inl (Ne.symm ne_b7_b13))
                  replace F_red_b13 := F_red_b13.other W34 (Or.inl (Ne.symm ne_b7_b13))
                  replace E_b15 := E_b15.wr W34
                  replace F_left_b15 := F_left_b15.other W34 (Or.inl (Ne.symm ne_b7_b15))
                  replace F_right_b15 := F_right_b15.other W34 (Or.inl (Ne.symm ne_b7_b15))
                  replace F_red_b15 := F_red_b15.other W34 (Or.inl (Ne.symm ne_b7_b15))
                  have Zs_W34 : n0 ≤ _ := Nat.le_trans Zs_W21 (Keep.of_wr W34).1
                  have N34 := Fr.snoc X34 N21 g_b7
                  refine own_via st34 ?_
                  show OwnEnds p.tables e below _ (T34.setTop (mkF m 224 #[.val (.int p0), .val (.int p1), .val (.int p2), .val (.int (0 : Int32)), .val (.int r0), .val (.int r1), .val (.int r2), .val (.int r3), .val (.int hg), .val (.int dr), .val (.ref b7), .val (.ref b9), .val (.ref b11), .val (.ref b13), .val (.ref b15), .unset, .unset] []))
                  refine own_via (fun t k => XS.aload X34.here hx rfl (hb hby at_224) rfl rfl k) ?_
                  show OwnEnds p.tables e below _ (T34.setTop (mkF m 226 #[.val (.int p0), .val (.int p1), .val (.int p2), .val (.int (0 : Int32)), .val (.int r0), .val (.int r1), .val (.int r2), .val (.int r3), .val (.int hg), .val (.int dr), .val (.ref b7), .val (.ref b9), .val (.ref b11), .val (.ref b13), .val (.ref b15), .unset, .unset] [(.ref b9)]))
                  refine own_via (fun t k => XS.aload X34.here hx rfl (hb hby at_226) rfl rfl k) ?_
                  show OwnEnds p.tables e below _ (T34.setTop (mkF m 228 #[.val (.int p0), .val (.int p1), .val (.int p2), .val (.int (0 : Int32)), .val (.int r0), .val (.int r1), .val (.int r2), .val (.int r3), .val (.int hg), .val (.int dr), .val (.ref b7), .val (.ref b9), .val (.ref b11), .val (.ref b13), .val (.ref b15), .unset, .unset] [(.ref b15), (.ref b9)]))
                  obtain ⟨T35, h35, X35, e35, W35, st35⟩ := putF X34 hx hZ hown (host := "") (Or.inl (hw _ (List.mem_of_getElem? (i := 19) rfl))) Via.refl e34 F_right_b9 E_b9 (Or.inl (hw _ (List.mem_of_getElem? (i := 20) rfl))) (hw _ (List.mem_of_getElem? (i := 1) rfl)) (ty := (.object "com/example/rowan/rowan/Node")) (by decide) rfl rfl (g := (mkF m 228 #[.val (.int p0), .val (.int p1), .val (.int p2), .val (.int (0 : Int32)), .val (.int r0), .val (.int r1), .val (.int r2), .val (.int r3), .val (.int hg), .val (.int dr), .val (.ref b7), .val (.ref b9), .val (.ref b11), .val (.ref b13), .val (.ref b15), .unset, .unset] [(.ref b15), (.ref b9)])) rfl rfl (hb hby at_228)
                  replace E_b7 := E_b7.wr W35
                  replace F_left_b7 := F_left_b7.other W35 (Or.inl ne_b7_b9)
                  replace F_right_b7 := F_right_b7.other W35 (Or.inl ne_b7_b9)
                  replace F_red_b7 := F_red_b7.other W35 (Or.inl ne_b7_b9)
                  replace E_b9 := E_b9.wr W35
                  replace F_left_b9 := F_left_b9.other W35 (Or.inr (slot_ne (Or.inl (hw _ (List.mem_of_getElem? (i := 22) rfl))) (Or.inl (hw _ (List.mem_of_getElem? (i := 20) rfl))) (by decide) (t := (.object "com/example/rowan/rowan/Node")) (t' := (.object "com/example/rowan/rowan/Node")) (by decide) (by decide)))
                  replace F_right_b9 := F_right_b9.same W35
                  replace F_red_b9 := F_red_b9.other W35 (Or.inr (slot_ne (Or.inl (hw _ (List.mem_of_getElem? (i := 14) rfl))) (Or.inl (hw _ (List.mem_of_getElem? (i := 20) rfl))) (by decide) (t := .boolean) (t' := (.object "com/example/rowan/rowan/Node")) (by decide) (by decide)))
                  replace E_b11 := E_b11.wr W35
                  replace F_left_b11 := F_left_b11.other W35 (Or.inl (Ne.symm ne_b9_b11))
                  replace F_right_b11 := F_right_b11.other W35 (Or.inl (Ne.symm ne_b9_b11))
                  replace F_red_b11 := F_red_b11.other W35 (Or.inl (Ne.symm ne_b9_b11))
                  replace E_b13 := E_b13.wr W35
                  replace F_left_b13 := F_left_b13.other W35 (Or.inl (Ne.symm ne_b9_b13))
                  replace F_right_b13 := F_right_b13.other W35 (Or.inl (Ne.symm ne_b9_b13))
                  replace F_red_b13 := F_red_b13.other W35 (Or.inl (Ne.symm ne_b9_b13))
                  replace E_b15 := E_b15.wr W35
                  replace F_left_b15 := F_left_b15.other W35 (Or.inl (Ne.symm ne_b9_b15))
                  replace F_right_b15 := F_right_b15.other W35 (Or.inl (Ne.symm ne_b9_b15))
                  replace F_red_b15 := F_red_b15.other W35 (Or.inl (Ne.symm ne_b9_b15))
                  have Zs_W35 : n0 ≤ _ := Nat.le_trans Zs_W34 (Keep.of_wr W35).1
                  have N35 := Fr.snoc X35 N34 g_b9
                  refine own_via st35 ?_
                  show OwnEnds p.tables e below _ (T35.setTop (mkF m 231 #[.val (.int p0), .val (.int p1), .val (.int p2), .val (.int (0 : Int32)), .val (.int r0), .val (.int r1), .val (.int r2), .val (.int r3), .val (.int hg), .val (.int dr), .val (.ref b7), .val (.ref b9), .val (.ref b11), .val (.ref b13), .val (.ref b15), .unset, .unset] []))
                  refine own_via (fun t k => XS.aload X35.here hx rfl (hb hby at_231) rfl rfl k) ?_
                  show OwnEnds p.tables e below _ (T35.setTop (mkF m 233 #[.val (.int p0), .val (.int p1), .val (.int p2), .val (.int (0 : Int32)), .val (.int r0), .val (.int r1), .val (.int r2), .val (.int r3), .val (.int hg), .val (.int dr), .val (.ref b7), .val (.ref b9), .val (.ref b11), .val (.ref b13), .val (.ref b15), .unset, .unset] [(.ref b11)]))
                  refine own_via (fun t k => XS.aload X35.here hx rfl (hb hby at_233) rfl rfl k) ?_
                  show OwnEnds p.tables e below _ (T35.setTop (mkF m 235 #[.val (.int p0), .val (.int p1), .val (.int p2), .val (.int (0 : Int32)), .val (.int r0), .val (.int r1), .val (.int r2), .val (.int r3), .val (.int hg), .val (.int dr), .val (.ref b7), .val (.ref b9), .val (.ref b11), .val (.ref b13), .val (.ref b15), .unset, .unset] [(.ref b15), (.ref b11)]))
                  obtain ⟨T36, h36, X36, e36, W36, st36⟩ := putF X35 hx hZ hown (host := "") (Or.inl (hw _ (List.mem_of_getElem? (i := 19) rfl))) Via.refl e35 F_right_b11 E_b11 (Or.inl (hw _ (List.mem_of_getElem? (i := 20) rfl))) (hw _ (List.mem_of_getElem? (i := 1) rfl)) (ty := (.object "com/example/rowan/rowan/Node")) (by decide) rfl rfl (g := (mkF m 235 #[.val (.int p0), .val (.int p1), .val (.int p2), .val (.int (0 : Int32)), .val (.int r0), .val (.int r1), .val (.int r2), .val (.int r3), .val (.int hg), .val (.int dr), .val (.ref b7), .val (.ref b9), .val (.ref b11), .val (.ref b13), .val (.ref b15), .unset, .unset] [(.ref b15), (.ref b11)])) rfl rfl (hb hby at_235)
                  replace E_b7 := E_b7.wr W36
                  replace F_left_b7 := F_left_b7.other W36 (Or.inl ne_b7_b11)
                  replace F_right_b7 := F_right_b7.other W36 (Or.inl ne_b7_b11)
                  replace F_red_b7 := F_red_b7.other W36 (Or.inl ne_b7_b11)
                  replace E_b9 := E_b9.wr W36
                  replace F_left_b9 := F_left_b9.other W36 (Or.inl ne_b9_b11)
                  replace F_right_b9 := F_right_b9.other W36 (Or.inl ne_b9_b11)
                  replace F_red_b9 := F_red_b9.other W36 (Or.inl ne_b9_b11)
                  replace E_b11 := E_b11.wr W36
                  replace F_left_b11 := F_left_b11.other W36 (Or.inr (slot_ne (Or.inl (hw _ (List.mem_of_getElem? (i := 22) rfl))) (Or.inl (hw _ (List.mem_of_getElem? (i := 20) rfl))) (by decide) (t := (.object "com/example/rowan/rowan/Node")) (t' := (.object "com/example/rowan/rowan/Node")) (by decide) (by decide)))
                  replace F_right_b11 := F_right_b11.same W36
                  replace F_red_b11 := F_red_b11.other W36 (Or.inr (slot_ne (Or.inl (hw _ (List.mem_of_getElem? (i := 14) rfl))) (Or.inl (hw _ (List.mem_of_getElem? (i := 20) rfl))) (by decide) (t := .boolean) (t' := (.object "com/example/rowan/rowan/Node")) (by decide) (by decide)))
                  replace E_b13 := E_b13.wr W36
                  replace F_left_b13 := F_left_b13.other W36 (Or.inl (Ne.symm ne_b11_b13))
                  replace F_right_b13 := F_right_b13.other W36 (Or.inl (Ne.symm ne_b11_b13))
                  replace F_red_b13 := F_red_b13.other W36 (Or.inl (Ne.symm ne_b11_b13))
                  replace E_b15 := E_b15.wr W36
                  replace F_left_b15 := F_left_b15.other W36 (Or.inl (Ne.symm ne_b11_b15))
                  replace F_right_b15 := F_right_b15.other W36 (Or.inl (Ne.symm ne_b11_b15))
                  replace F_red_b15 := F_red_b15.other W36 (Or.inl (Ne.symm ne_b11_b15))
                  have Zs_W36 : n0 ≤ _ := Nat.le_trans Zs_W35 (Keep.of_wr W36).1
                  have N36 := Fr.snoc X36 N35 g_b11
                  refine own_via st36 ?_
                  show OwnEnds p.tables e below _ (T36.setTop (mkF m 238 #[.val (.int p0), .val (.int p1), .val (.int p2), .val (.int (0 : Int32)), .val (.int r0), .val (.int r1), .val (.int r2), .val (.int r3), .val (.int hg), .val (.int dr), .val (.ref b7), .val (.ref b9), .val (.ref b11), .val (.ref b13), .val (.ref b15), .unset, .unset] []))
                  refine own_via (fun t k => XS.aload X36.here hx rfl (hb hby at_238) rfl rfl k) ?_
                  show OwnEnds p.tables e below _ (T36.setTop (mkF m 240 #[.val (.int p0), .val (.int p1), .val (.int p2), .val (.int (0 : Int32)), .val (.int r0), .val (.int r1), .val (.int r2), .val (.int r3), .val (.int hg), .val (.int dr), .val (.ref b7), .val (.ref b9), .val (.ref b11), .val (.ref b13), .val (.ref b15), .unset, .unset] [(.ref b13)]))
                  refine own_via (fun t k => XS.aload X36.here hx rfl (hb hby at_240) rfl rfl k) ?_
                  show OwnEnds p.tables e below _ (T36.setTop (mkF m 242 #[.val (.int p0), .val (.int p1), .val (.int p2), .val (.int (0 : Int32)), .val (.int r0), .val (.int r1), .val (.int r2), .val (.int r3), .val (.int hg), .val (.int dr), .val (.ref b7), .val (.ref b9), .val (.ref b11), .val (.ref b13), .val (.ref b15), .unset, .unset] [(.ref b15), (.ref b13)]))
                  obtain ⟨T37, h37, X37, e37, W37, st37⟩ := putF X36 hx hZ hown (host := "") (Or.inl (hw _ (List.mem_of_getElem? (i := 19) rfl))) Via.refl e36 F_right_b13 E_b13 (Or.inl (hw _ (List.mem_of_getElem? (i := 20) rfl))) (hw _ (List.mem_of_getElem? (i := 1) rfl)) (ty := (.object "com/example/rowan/rowan/Node")) (by decide) rfl rfl (g := (mkF m 242 #[.val (.int p0), .val (.int p1), .val (.int p2), .val (.int (0 : Int32)), .val (.int r0), .val (.int r1), .val (.int r2), .val (.int r3), .val (.int hg), .val (.int dr), .val (.ref b7), .val (.ref b9), .val (.ref b11), .val (.ref b13), .val (.ref b15), .unset, .unset] [(.ref b15), (.ref b13)])) rfl rfl (hb hby at_242)
                  replace E_b7 := E_b7.wr W37
                  replace F_left_b7 := F_left_b7.other W37 (Or.inl ne_b7_b13)
                  replace F_right_b7 := F_right_b7.other W37 (Or.inl ne_b7_b13)
                  replace F_red_b7 := F_red_b7.other W37 (Or.inl ne_b7_b13)
                  replace E_b9 := E_b9.wr W37
                  replace F_left_b9 := F_left_b9.other W37 (Or.inl ne_b9_b13)
                  replace F_right_b9 := F_right_b9.other W37 (Or.inl ne_b9_b13)
                  replace F_red_b9 := F_red_b9.other W37 (Or.inl ne_b9_b13)
                  replace E_b11 := E_b11.wr W37
                  replace F_left_b11 := F_left_b11.other W37 (Or.inl ne_b11_b13)
                  replace F_right_b11 := F_right_b11.other W37 (Or.inl ne_b11_b13)
                  replace F_red_b11 := F_red_b11.other W37 (Or.inl ne_b11_b13)
                  replace E_b13 := E_b13.wr W37
                  replace F_left_b13 := F_left_b13.other W37 (Or.inr (slot_ne (Or.inl (hw _ (List.mem_of_getElem? (i := 22) rfl))) (Or.inl (hw _ (List.mem_of_getElem? (i := 20) rfl))) (by decide) (t := (.object "com/example/rowan/rowan/Node")) (t' := (.object "com/example/rowan/rowan/Node")) (by decide) (by decide)))
                  replace F_right_b13 := F_right_b13.same W37
                  replace F_red_b13 := F_red_b13.other W37 (Or.inr (slot_ne (Or.inl (hw _ (List.mem_of_getElem? (i := 14) rfl))) (Or.inl (hw _ (List.mem_of_getElem? (i := 20) rfl))) (by decide) (t := .boolean) (t' := (.object "com/example/rowan/rowan/Node")) (by decide) (by decide)))
                  replace E_b15 := E_b15.wr W37
                  replace F_left_b15 := F_left_b15.other W37 (Or.inl (Ne.symm ne_b13_b15))
                  replace F_right_b15 := F_right_b15.other W37 (Or.inl (Ne.symm ne_b13_b15))
                  replace F_red_b15 := F_red_b15.other W37 (Or.inl (Ne.symm ne_b13_b15))
                  have Zs_W37 : n0 ≤ _ := Nat.le_trans Zs_W36 (Keep.of_wr W37).1
                  have N37 := Fr.snoc X37 N36 g_b13
                  refine own_via st37 ?_
                  show OwnEnds p.tables e below _ (T37.setTop (mkF m 245 #[.val (.int p0), .val (.int p1), .val (.int p2), .val (.int (0 : Int32)), .val (.int r0), .val (.int r1), .val (.int r2), .val (.int r3), .val (.int hg), .val (.int dr), .val (.ref b7), .val (.ref b9), .val (.ref b11), .val (.ref b13), .val (.ref b15), .unset, .unset] []))
                  exact J245_25 _ _ _ (own_wide X37 (by decide) (by decide)) e37 N37 Zs_W37 E_b7 F_left_b7 F_red_b7 E_b9 F_left_b9 F_red_b9 E_b11 F_left_b11 F_red_b11 E_b13 F_left_b13 F_red_b13 E_b15 F_left_b15 F_red_b15
              · skip
                subst q
                show OwnEnds p.tables e below _ (T21.setTop (mkF m 176 #[.val (.int p0), .val (.int p1), .val (.int p2), .val (.int (1 : Int32)), .val (.int r0), .val (.int r1), .val (.int r2), .val (.int r3), .val (.int hg), .val (.int dr), .val (.ref b7), .val (.ref b9), .val (.ref b11), .val (.ref b13), .val (.ref b15), .unset, .unset] []))
                refine own_via (fun t k => XS.iloadN X21.here hx rfl (hb hby at_176) rfl k) ?_
                show OwnEnds p.tables e below _ (T21.setTop (mkF m 177 #[.val (.int p0), .val (.int p1), .val (.int p2), .val (.int (1 : Int32)), .val (.int r0), .val (.int r1), .val (.int r2), .val (.int r3), .val (.int hg), .val (.int dr), .val (.ref b7), .val (.ref b9), .val (.ref b11), .val (.ref b13), .val (.ref b15), .unset, .unset] [(.int (1 : Int32))]))
                refine own_via (fun t k => XS.iconst X21.here hx rfl (hb hby at_177) k) ?_
                show OwnEnds p.tables e below _ (T21.setTop (mkF m 178 #[.val (.int p0), .val (.int p1), .val (.int p2), .val (.int (1 : Int32)), .val (.int r0), .val (.int r1), .val (.int r2), .val (.int r3), .val (.int hg), .val (.int dr), .val (.ref b7), .val (.ref b9), .val (.ref b11), .val (.ref b13), .val (.ref b15), .unset, .unset] [(.int (2 : Int32)), (.int (1 : Int32))]))
                have hc178_38 : (1 : Int32) < (2 : Int32) := by decide
                refine own_via (fun t k => XS.icmpYes X21.here hx rfl (pc0 := 178) (pc' := 188) rfl (hb hby at_178) rfl (tlt hc178_38).1 (by decide) (by decide) k) ?_
                show OwnEnds p.tables e below _ (T21.setTop (mkF m 188 #[.val (.int p0), .val (.int p1), .val (.int p2), .val (.int (1 : Int32)), .val (.int r0), .val (.int r1), .val (.int r2), .val (.int r3), .val (.int hg), .val (.int dr), .val (.ref b7), .val (.ref b9), .val (.ref b11), .val (.ref b13), .val (.ref b15), .unset, .unset] []))
                refine own_via (fun t k => XS.iloadN X21.here hx rfl (hb hby at_188) rfl k) ?_
                show OwnEnds p.tables e below _ (T21.setTop (mkF m 189 #[.val (.int p0), .val (.int p1), .val (.int p2), .val (.int (1 : Int32)), .val (.int r0), .val (.int r1), .val (.int r2), .val (.int r3), .val (.int hg), .val (.int dr), .val (.ref b7), .val (.ref b9), .val (.ref b11), .val (.ref b13), .val (.ref b15), .unset, .unset] [(.int (1 : Int32))]))
                refine own_via (fun t k => XS.iconst X21.here hx rfl (hb hby at_189) k) ?_
                show OwnEnds p.tables e below _ (T21.setTop (mkF m 190 #[.val (.int p0), .val (.int p1), .val (.int p2), .val (.int (1 : Int32)), .val (.int r0), .val (.int r1), .val (.int r2), .val (.int r3), .val (.int hg), .val (.int dr), .val (.ref b7), .val (.ref b9), .val (.ref b11), .val (.ref b13), .val (.ref b15), .unset, .unset] [(.int (3 : Int32)), (.int (1 : Int32))]))
                have hc190_39 : (1 : Int32) < (3 : Int32) := by decide
                refine own_via (fun t k => XS.icmpYes X21.here hx rfl (pc0 := 190) (pc' := 200) rfl (hb hby at_190) rfl (tlt hc190_39).1 (by decide) (by decide) k) ?_
                show OwnEnds p.tables e below _ (T21.setTop (mkF m 200 #[.val (.int p0), .val (.int p1), .val (.int p2), .val (.int (1 : Int32)), .val (.int r0), .val (.int r1), .val (.int r2), .val (.int r3), .val (.int hg), .val (.int dr), .val (.ref b7), .val (.ref b9), .val (.ref b11), .val (.ref b13), .val (.ref b15), .unset, .unset] []))
                refine own_via (fun t k => XS.iloadN X21.here hx rfl (hb hby at_200) rfl k) ?_
                show OwnEnds p.tables e below _ (T21.setTop (mkF m 201 #[.val (.int p0), .val (.int p1), .val (.int p2), .val (.int (1 : Int32)), .val (.int r0), .val (.int r1), .val (.int r2), .val (.int r3), .val (.int hg), .val (.int dr), .val (.ref b7), .val (.ref b9), .val (.ref b11), .val (.ref b13), .val (.ref b15), .unset, .unset] [(.int (1 : Int32))]))
                refine own_via (fun t k => XS.iconst X21.here hx rfl (hb hby at_201) k) ?_
                show OwnEnds p.tables e below _ (T21.setTop (mkF m 202 #[.val (.int p0), .val (.int p1), .val (.int p2), .val (.int (1 : Int32)), .val (.int r0), .val (.int r1), .val (.int r2), .val (.int r3), .val (.int hg), .val (.int dr), .val (.ref b7), .val (.ref b9), .val (.ref b11), .val (.ref b13), .val (.ref b15), .unset, .unset] [(.int (4 : Int32)), (.int (1 : Int32))]))
                have hc202_40 : (1 : Int32) < (4 : Int32) := by decide
                refine own_via (fun t k => XS.icmpYes X21.here hx rfl (pc0 := 202) (pc' := 212) rfl (hb hby at_202) rfl (tlt hc202_40).1 (by decide) (by decide) k) ?_
                show OwnEnds p.tables e below _ (T21.setTop (mkF m 212 #[.val (.int p0), .val (.int p1), .val (.int p2), .val (.int (1 : Int32)), .val (.int r0), .val (.int r1), .val (.int r2), .val (.int r3), .val (.int hg), .val (.int dr), .val (.ref b7), .val (.ref b9), .val (.ref b11), .val (.ref b13), .val (.ref b15), .unset, .unset] []))
                refine own_via (fun t k => XS.iload X21.here hx rfl (hb hby at_212) rfl k) ?_
                show OwnEnds p.tables e below _ (T21.setTop (mkF m 214 #[.val (.int p0), .val (.int p1), .val (.int p2), .val (.int (1 : Int32)), .val (.int r0), .val (.int r1), .val (.int r2), .val (.int r3), .val (.int hg), .val (.int dr), .val (.ref b7), .val (.ref b9), .val (.ref b11), .val (.ref b13), .val (.ref b15), .unset, .unset] [(.int hg)]))
                have J245_41 : ∀ (TJ245_41 : State) (hJ245_41 : Heap) (locsJ245_41 : List Loc), Stand p l e room_1 s m #[(.int p0), (.int p1), (.int p2)] below meth c TJ245_41 locsJ245_41 5 35 → TJ245_41.heap = hJ245_41 → Fr n0 locsJ245_41 → n0 ≤ hJ245_41.size → Exa Z hJ245_41 b7 "com/example/rowan/rowan/Node" → Fld Z hJ245_41 b7 "com/example/rowan/rowan/Node" "left" "Lcom/example/rowan/rowan/Node;" .null → Fld Z hJ245_41 b7 "com/example/rowan/rowan/Node" "red" "Z" (.int r0) → Exa Z hJ245_41 b9 "com/example/rowan/rowan/Node" → Fld Z hJ245_41 b9 "com/example/rowan/rowan/Node" "left" "Lcom/example/rowan/rowan/Node;" .null → Fld Z hJ245_41 b9 "com/example/rowan/rowan/Node" "red" "Z" (.int r1) → Exa Z hJ245_41 b11 "com/example/rowan/rowan/Node" → Fld Z hJ245_41 b11 "com/example/rowan/rowan/Node" "left" "Lcom/example/rowan/rowan/Node;" .null → Fld Z hJ245_41 b11 "com/example/rowan/rowan/Node" "red" "Z" (.int r2) → Exa Z hJ245_41 b13 "com/example/rowan/rowan/Node" → Fld Z hJ245_41 b13 "com/example/rowan/rowan/Node" "left" "Lcom/example/rowan/rowan/Node;" .null → Fld Z hJ245_41 b13 "com/example/rowan/rowan/Node" "red" "Z" (.int r3) → Exa Z hJ245_41 b15 "com/example/rowan/rowan/Node" → Fld Z hJ245_41 b15 "com/example/rowan/rowan/Node" "left" "Lcom/example/rowan/rowan/Node;" .null → Fld Z hJ245_41 b15 "com/example/rowan/rowan/Node" "red" "Z" (.int dr) → OwnEnds p.tables e below (OwnQ s 24 192 (Q0 Z p0 p1 p2 h0 n0)) (TJ245_41.setTop (mkF m 245 #[.val (.int p0), .val (.int p1), .val (.int p2), .val (.int (1 : Int32)), .val (.int r0), .val (.int r1), .val (.int r2), .val (.int r3), .val (.int hg), .val (.int dr), .val (.ref b7), .val (.ref b9), .val (.ref b11), .val (.ref b13), .val (.ref b15), .unset, .unset] [])) := by
                  intro TJ245_41 hJ245_41 locsJ245_41 XJ245_41 eJ245_41 NJ245_41 ZsJ245_41 E_b7 F_left_b7 F_red_b7 E_b9 F_left_b9 F_red_b9 E_b11 F_left_b11 F_red_b11 E_b13 F_left_b13 F_red_b13 E_b15 F_left_b15 F_red_b15
                  refine own_via (fun t k => XS.iloadN XJ245_41.here hx rfl (hb hby at_245) rfl k) ?_
                  show OwnEnds p.tables e below _ (TJ245_41.setTop (mkF m 246 #[.val (.int p0), .val (.int p1), .val (.int p2), .val (.int (1 : Int32)), .val (.int r0), .val (.int r1), .val (.int r2), .val (.int r3), .val (.int hg), .val (.int dr), .val (.ref b7), .val (.ref b9), .val (.ref b11), .val (.ref b13), .val (.ref b15), .unset, .unset] [(.int (1 : Int32))]))
                  have hc246_42 : ¬ ((1 : Int32) = (0 : Int32)) := by decide
                  refine own_via (fun t k => XS.ifYes XJ245_41.here hx rfl (pc0 := 246) (pc' := 253) rfl (hb hby at_246) rfl ((if0 _ _).trans (feq hc246_42).2) (by decide) (by decide) k) ?_
                  show OwnEnds p.tables e below _ (TJ245_41.setTop (mkF m 253 #[.val (.int p0), .val (.int p1), .val (.int p2), .val (.int (1 : Int32)), .val (.int r0), .val (.int r1), .val (.int r2), .val (.int r3), .val (.int hg), .val (.int dr), .val (.ref b7), .val (.ref b9), .val (.ref b11), .val (.ref b13), .val (.ref b15), .unset, .unset] []))
                  refine own_via (fun t k => XS.aload XJ245_41.here hx rfl (hb hby at_253) rfl rfl k) ?_
                  show OwnEnds p.tables e below _ (TJ245_41.setTop (mkF m 255 #[.val (.int p0), .val (.int p1), .val (.int p2), .val (.int (1 : Int32)), .val (.int r0), .val (.int r1), .val (.int r2), .val (.int r3), .val (.int hg), .val (.int dr), .val (.ref b7), .val (.ref b9), .val (.ref b11), .val (.ref b13), .val (.ref b15), .unset, .unset] [(.ref b7)]))
                  refine own_via (fun t k => XS.astore XJ245_41.here hx rfl (hb hby at_255) rfl rfl (l' := #[.val (.int p0), .val (.int p1), .val (.int p2), .val (.int (1 : Int32)), .val (.int r0), .val (.int r1), .val (.int r2), .val (.int r3), .val (.int hg), .val (.int dr), .val (.ref b7), .val (.ref b9), .val (.ref b11), .val (.ref b13), .val (.ref b15), .val (.ref b7), .unset]) rfl k) ?_
                  show OwnEnds p.tables e below _ (TJ245_41.setTop (mkF m 257 #[.val (.int p0), .val (.int p1), .val (.int p2), .val (.int (1 : Int32)), .val (.int r0), .val (.int r1), .val (.int r2), .val (.int r3), .val (.int hg), .val (.int dr), .val (.ref b7), .val (.ref b9), .val (.ref b11), .val (.ref b13), .val (.ref b15), .val (.ref b7), .unset] []))
                  refine own_via (fun t k => XS.iconst XJ245_41.here hx rfl (hb hby at_257) k) ?_
                  show OwnEnds p.tables e below _ (TJ245_41.setTop (mkF m 258 #[.val (.int p0), .val (.int p1), .val (.int p2), .val (.int (1 : Int32)), .val (.int r0), .val (.int r1), .val (.int r2), .val (.int r3), .val (.int hg), .val (.int dr), .val (.ref b7), .val (.ref b9), .val (.ref b11), .val (.ref b13), .val (.ref b15), .val (.ref b7), .unset] [(.int (0 : Int32))]))
                  refine own_via (fun t k => XS.istore XJ245_41.here hx rfl (hb hby at_258) rfl (l' := #[.val (.int p0), .val (.int p1), .val (.int p2), .val (.int (1 : Int32)), .val (.int r0), .val (.int r1), .val (.int r2), .val (.int r3), .val (.int hg), .val (.int dr), .val (.ref b7), .val (.ref b9), .val (.ref b11), .val (.ref b13), .val (.ref b15), .val (.ref b7), .val (.int (0 : Int32))]) rfl k) ?_
                  show OwnEnds p.tables e below _ (TJ245_41.setTop (mkF m 260 #[.val (.int p0), .val (.int p1), .val (.int p2), .val (.int (1 : Int32)), .val (.int r0), .val (.int r1), .val (.int r2), .val (.int r3), .val (.int hg), .val (.int dr), .val (.ref b7), .val (.ref b9), .val (.ref b11), .val (.ref b13), .val (.ref b15), .val (.ref b7), .val (.int (0 : Int32))] []))
                  refine own_via (fun t k => XS.iloadN XJ245_41.here hx rfl (hb hby at_260) rfl k) ?_
                  show OwnEnds p.tables e below _ (TJ245_41.setTop (mkF m 261 #[.val (.int p0), .val (.int p1), .val (.int p2), .val (.int (1 : Int32)), .val (.int r0), .val (.int r1), .val (.int r2), .val (.int r3), .val (.int hg), .val (.int dr), .val (.ref b7), .val (.ref b9), .val (.ref b11), .val (.ref b13), .val (.ref b15), .val (.ref b7), .val (.int (0 : Int32))] [(.int (1 : Int32))]))
                  refine own_via (fun t k => XS.iconst XJ245_41.here hx rfl (hb hby at_261) k) ?_
                  show OwnEnds p.tables e below _ (TJ245_41.setTop (mkF m 262 #[.val (.int p0), .val (.int p1), .val (.int p2), .val (.int (1 : Int32)), .val (.int r0), .val (.int r1), .val (.int r2), .val (.int r3), .val (.int hg), .val (.int dr), .val (.ref b7), .val (.ref b9), .val (.ref b11), .val (.ref b13), .val (.ref b15), .val (.ref b7), .val (.int (0 : Int32))] [(.int (1 : Int32)), (.int (1 : Int32))]))
                  have hc262_43 : ¬ ((1 : Int32) < (1 : Int32)) := by decide
                  refine own_via (fun t k => XS.icmpNo XJ245_41.here hx rfl (hb hby at_262) rfl (flt hc262_43).1 k) ?_
                  show OwnEnds p.tables e below _ (TJ245_41.setTop (mkF m 265 #[.val (.int p0), .val (.int p1), .val (.int p2), .val (.int (1 : Int32)), .val (.int r0), .val (.int r1), .val (.int r2), .val (.int r3), .val (.int hg), .val (.int dr), .val (.ref b7), .val (.ref b9), .val (.ref b11), .val (.ref b13), .val (.ref b15), .val (.ref b7), .val (.int (0 : Int32))] []))
                  refine own_via (fun t k => XS.iload XJ245_41.here hx rfl (hb hby at_265) rfl k) ?_
                  show OwnEnds p.tables e below _ (TJ245_41.setTop (mkF m 267 #[.val (.int p0), .val (.int p1), .val (.int p2), .val (.int (1 : Int32)), .val (.int r0), .val (.int r1), .val (.int r2), .val (.int r3), .val (.int hg), .val (.int dr), .val (.ref b7), .val (.ref b9), .val (.ref b11), .val (.ref b13), .val (.ref b15), .val (.ref b7), .val (.int (0 : Int32))] [(.int r0)]))
                  have J273_44 : ∀ ev1 : Int32, ev1 = (if r0 = (0 : Int32) then (1 : Int32) else (0 : Int32)) → OwnEnds p.tables e below (OwnQ s 24 192 (Q0 Z p0 p1 p2 h0 n0)) (TJ245_41.setTop (mkF m 273 #[.val (.int p0), .val (.int p1), .val (.int p2), .val (.int (1 : Int32)), .val (.int r0), .val (.int r1), .val (.int r2), .val (.int r3), .val (.int hg), .val (.int dr), .val (.ref b7), .val (.ref b9), .val (.ref b11), .val (.ref b13), .val (.ref b15), .val (.ref b7), .val (.int ev1)] [])) := by
                    intro ev1 h_ev1
                    refine own_via (fun t k => XS.iloadN XJ245_41.here hx rfl (hb hby at_273) rfl k) ?_
                    show OwnEnds p.tables e below _ (TJ245_41.setTop (mkF m 274 #[.val (.int p0), .val (.int p1), .val (.int p2), .val (.int (1 : Int32)), .val (.int r0), .val (.int r1), .val (.int r2), .val (.int r3), .val (.int hg), .val (.int dr), .val (.ref b7), .val (.ref b9), .val (.ref b11), .val (.ref b13), .val (.ref b15), .val (.ref b7), .val (.int ev1)] [(.int (1 : Int32))]))
                    refine own_via (fun t k => XS.iconst XJ245_41.here hx rfl (hb hby at_274) k) ?_
                    show OwnEnds p.tables e below _ (TJ245_41.setTop (mkF m 275 #[.val (.int p0), .val (.int p1), .val (.int p2), .val (.int (1 : Int32)), .val (.int r0), .val (.int r1), .val (.int r2), .val (.int r3), .val (.int hg), .val (.int dr), .val (.ref b7), .val (.ref b9), .val (.ref b11), .val (.ref b13), .val (.ref b15), .val (.ref b7), .val (.int ev1)] [(.int (2 : Int32)), (.int (1 : Int32))]))
                    have hc275_45 : (1 : Int32) < (2 : Int32) := by decide
                    refine own_via (fun t k => XS.icmpYes XJ245_41.here hx rfl (pc0 := 275) (pc' := 286) rfl (hb hby at_275) rfl (tlt hc275_45).1 (by decide) (by decide) k) ?_
                    show OwnEnds p.tables e below _ (TJ245_41.setTop (mkF m 286 #[.val (.int p0), .val (.int p1), .val (.int p2), .val (.int (1 : Int32)), .val (.int r0), .val (.int r1), .val (.int r2), .val (.int r3), .val (.int hg), .val (.int dr), .val (.ref b7), .val (.ref b9), .val (.ref b11), .val (.ref b13), .val (.ref b15), .val (.ref b7), .val (.int ev1)] []))
                    refine own_via (fun t k => XS.iloadN XJ245_41.here hx rfl (hb hby at_286) rfl k) ?_
                    show OwnEnds p.tables e below _ (TJ245_41.setTop (mkF m 287 #[.val (.int p0), .val (.int p1), .val (.int p2), .val (.int (1 : Int32)), .val (.int r0), .val (.int r1), .val (.int r2), .val (.int r3), .val (.int hg), .val (.int dr), .val (.ref b7), .val (.ref b9), .val (.ref b11), .val (.ref b13), .val (.ref b15), .val (.ref b7), .val (.int ev1)] [(.int (1 : Int32))]))
                    refine own_via (fun t k => XS.iconst XJ245_41.here hx rfl (hb hby at_287) k) ?_
                    show OwnEnds p.tables e below _ (TJ245_41.setTop (mkF m 288 #[.val (.int p0), .val (.int p1), .val (.int p2), .val (.int (1 : Int32)), .val (.int r0), .val (.int r1), .val (.int r2), .val (.int r3), .val (.int hg), .val (.int dr), .val (.ref b7), .val (.ref b9), .val (.ref b11), .val (.ref b13), .val (.ref b15), .val (.ref b7), .val (.int ev1)] [(.int (3 : Int32)), (.int (1 : Int32))]))
                    have hc288_46 : (1 : Int32) < (3 : Int32) := by decide
                    refine own_via (fun t k => XS.icmpYes XJ245_41.here hx rfl (pc0 := 288) (pc' := 299) rfl (hb hby at_288) rfl (tlt hc288_46).1 (by decide) (by decide) k) ?_
                    show OwnEnds p.tables e below _ (TJ245_41.setTop (mkF m 299 #[.val (.int p0), .val (.int p1), .val (.int p2), .val (.int (1 : Int32)), .val (.int r0), .val (.int r1), .val (.int r2), .val (.int r3), .val (.int hg), .val (.int dr), .val (.ref b7), .val (.ref b9), .val (.ref b11), .val (.ref b13), .val (.ref b15), .val (.ref b7), .val (.int ev1)] []))
                    refine own_via (fun t k => XS.iloadN XJ245_41.here hx rfl (hb hby at_299) rfl k) ?_
                    show OwnEnds p.tables e below _ (TJ245_41.setTop (mkF m 300 #[.val (.int p0), .val (.int p1), .val (.int p2), .val (.int (1 : Int32)), .val (.int r0), .val (.int r1), .val (.int r2), .val (.int r3), .val (.int hg), .val (.int dr), .val (.ref b7), .val (.ref b9), .val (.ref b11), .val (.ref b13), .val (.ref b15), .val (.ref b7), .val (.int ev1)] [(.int (1 : Int32))]))
                    refine own_via (fun t k => XS.iconst XJ245_41.here hx rfl (hb hby at_300) k) ?_
                    show OwnEnds p.tables e below _ (TJ245_41.setTop (mkF m 301 #[.val (.int p0), .val (.int p1), .val (.int p2), .val (.int (1 : Int32)), .val (.int r0), .val (.int r1), .val (.int r2), .val (.int r3), .val (.int hg), .val (.int dr), .val (.ref b7), .val (.ref b9), .val (.ref b11), .val (.ref b13), .val (.ref b15), .val (.ref b7), .val (.int ev1)] [(.int (4 : Int32)), (.int (1 : Int32))]))
                    have hc301_47 : (1 : Int32) < (4 : Int32) := by decide
                    refine own_via (fun t k => XS.icmpYes XJ245_41.here hx rfl (pc0 := 301) (pc' := 312) rfl (hb hby at_301) rfl (tlt hc301_47).1 (by decide) (by decide) k) ?_
                    show OwnEnds p.tables e below _ (TJ245_41.setTop (mkF m 312 #[.val (.int p0), .val (.int p1), .val (.int p2), .val (.int (1 : Int32)), .val (.int r0), .val (.int r1), .val (.int r2), .val (.int r3), .val (.int hg), .val (.int dr), .val (.ref b7), .val (.ref b9), .val (.ref b11), .val (.ref b13), .val (.ref b15), .val (.ref b7), .val (.int ev1)] []))
                    refine own_via (fun t k => XS.aload XJ245_41.here hx rfl (hb hby at_312) rfl rfl k) ?_
                    show OwnEnds p.tables e below _ (TJ245_41.setTop (mkF m 314 #[.val (.int p0), .val (.int p1), .val (.int p2), .val (.int (1 : Int32)), .val (.int r0), .val (.int r1), .val (.int r2), .val (.int r3), .val (.int hg), .val (.int dr), .val (.ref b7), .val (.ref b9), .val (.ref b11), .val (.ref b13), .val (.ref b15), .val (.ref b7), .val (.int ev1)] [(.ref b7)]))
                    obtain ⟨_, _, ⟨T48, L48, k48, n48⟩, -, X48, ⟨Lc48, hQ48, l48, y48, z48⟩, st48⟩ := Jvm.LawKit.callS XJ245_41 hx (y := (⟨"com/example/rowan/rowan/Node", "blackHeight", "(Lcom/example/rowan/rowan/Node;)I"⟩ : MethodName)) hown (mvT hZ (hw _ (List.mem_of_getElem? (i := 16) rfl))) (mvT hZ (hw _ (List.mem_of_getElem? (i := 17) rfl))) (mvT hZ (hw _ (List.mem_of_getElem? (i := 2) rfl))) (mvT hZ (hw _ (List.mem_of_getElem? (i := 18) rfl))) (by decide) (backOf (W := 0) (rm3 l Z aw hw [] (.ref b7) [r0] hJ245_41 n0 ZsJ245_41 ⟨b7, _, rfl, F_red_b7, F_left_b7, (rfl : OwnCh Z hJ245_41 .null [])⟩ rfl) hZ (hw _ (List.mem_of_getElem? (i := 18) rfl)) (hw _ (List.mem_of_getElem? (i := 2) rfl)) (by decide) (by decide)) (g := (mkF m 314 #[.val (.int p0), .val (.int p1), .val (.int p2), .val (.int (1 : Int32)), .val (.int r0), .val (.int r1), .val (.int r2), .val (.int r3), .val (.int hg), .val (.int dr), .val (.ref b7), .val (.ref b9), .val (.ref b11), .val (.ref b13), .val (.ref b15), .val (.ref b7), .val (.int ev1)] [(.ref b7)])) rfl (by rw [hml]; rfl) (argsL := [(.ref b7)]) (rest := []) (lenOf pd_1 rfl) rfl (by show 2 * 0 + _ ≤ _; exact Nat.le_of_eq rfl) (hb hby at_314) (fun _ _ => ⟨rfl, eJ245_41, (by decide : 5 + 0 ≤ _), (by decide : 35 + 0 ≤ _)⟩)
                    dsimp only [Pt.U, Pt.locs, Pt.cells, Pt.slots] at X48 l48 y48 z48 st48 hQ48
                    subst l48 y48 z48
                    obtain ⟨rfl, Nq48, e48⟩ := hQ48
                    have N48 := Fr.app NJ245_41 Nq48
                    replace e48 : T48.heap = hJ245_41 := e48
                    refine own_via st48 ?_
                    show OwnEnds p.tables e below _ (T48.setTop (mkF m 317 #[.val (.int p0), .val (.int p1), .val (.int p2), .val (.int (1 : Int32)), .val (.int r0), .val (.int r1), .val (.int r2), .val (.int r3), .val (.int hg), .val (.int dr), .val (.ref b7), .val (.ref b9), .val (.ref b11), .val (.ref b13), .val (.ref b15), .val (.ref b7), .val (.int ev1)] [(.int (own_bh [r0]))]))
                    refine own_via (fun t k => XS.iload X48.here hx rfl (hb hby at_317) rfl k) ?_
                    show OwnEnds p.tables e below _ (T48.setTop (mkF m 319 #[.val (.int p0), .val (.int p1), .val (.int p2), .val (.int (1 : Int32)), .val (.int r0), .val (.int r1), .val (.int r2), .val (.int r3), .val (.int hg), .val (.int dr), .val (.ref b7), .val (.ref b9), .val (.ref b11), .val (.ref b13), .val (.ref b15), .val (.ref b7), .val (.int ev1)] [(.int ev1), (.int (own_bh [r0]))]))
                    have hc319_49 : (own_bh [r0]) = ev1 := own_b1 h_ev1
                    refine own_via (fun t k => XS.icmpNo X48.here hx rfl (hb hby at_319) rfl (teq hc319_49).2 k) ?_
                    show OwnEnds p.tables e below _ (T48.setTop (mkF m 322 #[.val (.int p0), .val (.int p1), .val (.int p2), .val (.int (1 : Int32)), .val (.int r0), .val (.int r1), .val (.int r2), .val (.int r3), .val (.int hg), .val (.int dr), .val (.ref b7), .val (.ref b9), .val (.ref b11), .val (.ref b13), .val (.ref b15), .val (.ref b7), .val (.int ev1)] []))
                    refine own_via (fun t k => XS.iconst X48.here hx rfl (hb hby at_322) k) ?_
                    show OwnEnds p.tables e below _ (T48.setTop (mkF m 323 #[.val (.int p0), .val (.int p1), .val (.int p2), .val (.int (1 : Int32)), .val (.int r0), .val (.int r1), .val (.int r2), .val (.int r3), .val (.int hg), .val (.int dr), .val (.ref b7), .val (.ref b9), .val (.ref b11), .val (.ref b13), .val (.ref b15), .val (.ref b7), .val (.int ev1)] [(.int (1 : Int32))]))
                    refine own_via (fun t k => XS.goto X48.here hx rfl (pc0 := 323) (pc' := 327) rfl (hb hby at_323) (by decide) (by decide) k) ?_
                    show OwnEnds p.tables e below _ (T48.setTop (mkF m 327 #[.val (.int p0), .val (.int p1), .val (.int p2), .val (.int (1 : Int32)), .val (.int r0), .val (.int r1), .val (.int r2), .val (.int r3), .val (.int hg), .val (.int dr), .val (.ref b7), .val (.ref b9), .val (.ref b11), .val (.ref b13), .val (.ref b15), .val (.ref b7), .val (.int ev1)] [(.int (1 : Int32))]))
                    refine own_retN (t := .boolean) X48 hx Bd.returns (by simp) hlk (hb hby at_327) ?_ (by decide) (by decide)
                    rw [e48]
                    exact ⟨rfl, N48⟩
                  by_cases hc267_50 : r0 = (0 : Int32)
                  · skip
                    refine own_via (fun t k => XS.ifNo XJ245_41.here hx rfl (hb hby at_267) rfl ((if0 _ _).trans (teq hc267_50).2) k) ?_
                    show OwnEnds p.tables e below _ (TJ245_41.setTop (mkF m 270 #[.val (.int p0), .val (.int p1), .val (.int p2), .val (.int (1 : Int32)), .val (.int r0), .val (.int r1), .val (.int r2), .val (.int r3), .val (.int hg), .val (.int dr), .val (.ref b7), .val (.ref b9), .val (.ref b11), .val (.ref b13), .val (.ref b15), .val (.ref b7), .val (.int (0 : Int32))] []))
                    refine own_via (fun t k => XS.iinc XJ245_41.here hx rfl (hb hby at_270) rfl (l' := #[.val (.int p0), .val (.int p1), .val (.int p2), .val (.int (1 : Int32)), .val (.int r0), .val (.int r1), .val (.int r2), .val (.int r3), .val (.int hg), .val (.int dr), .val (.ref b7), .val (.ref b9), .val (.ref b11), .val (.ref b13), .val (.ref b15), .val (.ref b7), .val (.int (1 : Int32))]) rfl k) ?_
                    show OwnEnds p.tables e below _ (TJ245_41.setTop (mkF m 273 #[.val (.int p0), .val (.int p1), .val (.int p2), .val (.int (1 : Int32)), .val (.int r0), .val (.int r1), .val (.int r2), .val (.int r3), .val (.int hg), .val (.int dr), .val (.ref b7), .val (.ref b9), .val (.ref b11), .val (.ref b13), .val (.ref b15), .val (.ref b7), .val (.int (1 : Int32))] []))
                    exact J273_44 _ (by simp only [if_pos hc267_50])
                  · skip
                    refine own_via (fun t k => XS.ifYes XJ245_41.here hx rfl (pc0 := 267) (pc' := 273) rfl (hb hby at_267) rfl ((if0 _ _).trans (feq hc267_50).2) (by decide) (by decide) k) ?_
                    show OwnEnds p.tables e below _ (TJ245_41.setTop (mkF m 273 #[.val (.int p0), .val (.int p1), .val (.int p2), .val (.int (1 : Int32)), .val (.int r0), .val (.int r1), .val (.int r2), .val (.int r3), .val (.int hg), .val (.int dr), .val (.ref b7), .val (.ref b9), .val (.ref b11), .val (.ref b13), .val (.ref b15), .val (.ref b7), .val (.int (0 : Int32))] []))
                    exact J273_44 _ (by simp only [if_neg hc267_50])
                by_cases hc214_51 : hg = (0 : Int32)
                · skip
                  refine own_via (fun t k => XS.ifYes X21.here hx rfl (pc0 := 214) (pc' := 245) rfl (hb hby at_214) rfl ((if0 _ _).trans (teq hc214_51).1) (by decide) (by decide) k) ?_
                  show OwnEnds p.tables e below _ (T21.setTop (mkF m 245 #[.val (.int p0), .val (.int p1), .val (.int p2), .val (.int (1 : Int32)), .val (.int r0), .val (.int r1), .val (.int r2), .val (.int r3), .val (.int hg), .val (.int dr), .val (.ref b7), .val (.ref b9), .val (.ref b11), .val (.ref b13), .val (.ref b15), .unset, .unset] []))
                  exact J245_41 _ _ _ (own_wide X21 (by decide) (by decide)) e21 N21 Zs_W21 E_b7 F_left_b7 F_red_b7 E_b9 F_left_b9 F_red_b9 E_b11 F_left_b11 F_red_b11 E_b13 F_left_b13 F_red_b13 E_b15 F_left_b15 F_red_b15
                · skip
                  refine own_via (fun t k => XS.ifNo X21.here hx rfl (hb hby at_214) rfl ((if0 _ _).trans (feq hc214_51).1) k) ?_
                  show OwnEnds p.tables e below _ (T21.setTop (mkF m 217 #[.val (.int p0), .val (.int p1), .val (.int p2), .val (.int (1 : Int32)), .val (.int r0), .val (.int r1), .val (.int r2), .val (.int r3), .val (.int hg), .val (.int dr), .val (.ref b7), .val (.ref b9), .val (.ref b11), .val (.ref b13), .val (.ref b15), .unset, .unset] []))
                  refine own_via (fun t k => XS.aload X21.here hx rfl (hb hby at_217) rfl rfl k) ?_
                  show OwnEnds p.tables e below _ (T21.setTop (mkF m 219 #[.val (.int p0), .val (.int p1), .val (.int p2), .val (.int (1 : Int32)), .val (.int r0), .val (.int r1), .val (.int r2), .val (.int r3), .val (.int hg), .val (.int dr), .val (.ref b7), .val (.ref b9), .val (.ref b11), .val (.ref b13), .val (.ref b15), .unset, .unset] [(.ref b7)]))
                  refine own_via (fun t k => XS.aload X21.here hx rfl (hb hby at_219) rfl rfl k) ?_
                  show OwnEnds p.tables e below _ (T21.setTop (mkF m 221 #[.val (.int p0), .val (.int p1), .val (.int p2), .val (.int (1 : Int32)), .val (.int r0), .val (.int r1), .val (.int r2), .val (.int r3), .val (.int hg), .val (.int dr), .val (.ref b7), .val (.ref b9), .val (.ref b11), .val (.ref b13), .val (.ref b15), .unset, .unset] [(.ref b15), (.ref b7)]))
                  obtain ⟨T52, h52, X52, e52, W52, st52⟩ := putF X21 hx hZ hown (host := "") (Or.inl (hw _ (List.mem_of_getElem? (i := 19) rfl))) Via.refl e21 F_right_b7 E_b7 (Or.inl (hw _ (List.mem_of_getElem? (i := 20) rfl))) (hw _ (List.mem_of_getElem? (i := 1) rfl)) (ty := (.object "com/example/rowan/rowan/Node")) (by decide) rfl rfl (g := (mkF m 221 #[.val (.int p0), .val (.int p1), .val (.int p2), .val (.int (1 : Int32)), .val (.int r0), .val (.int r1), .val (.int r2), .val (.int r3), .val (.int hg), .val (.int dr), .val (.ref b7), .val (.ref b9), .val (.ref b11), .val (.ref b13), .val (.ref b15), .unset, .unset] [(.ref b15), (.ref b7)])) rfl rfl (hb hby at_221)
                  replace E_b7 := E_b7.wr W52
                  replace F_left_b7 := F_left_b7.other W52 (Or.inr (slot_ne (Or.inl (hw _ (List.mem_of_getElem? (i := 22) rfl))) (Or.inl (hw _ (List.mem_of_getElem? (i := 20) rfl))) (by decide) (t := (.object "com/example/rowan/rowan/Node")) (t' := (.object "com/example/rowan/rowan/Node")) (by decide) (by decide)))
                  replace F_right_b7 := F_right_b7.same W52
                  replace F_red_b7 := F_red_b7.other W52 (Or.inr (slot_ne (Or.inl (hw _ (List.mem_of_getElem? (i := 14) rfl))) (Or.inl (hw _ (List.mem_of_getElem? (i := 20) rfl))) (by decide) (t := .boolean) (t' := (.object "com/example/rowan/rowan/Node")) (by decide) (by decide)))
                  replace E_b9 := E_b9.wr W52
                  replace F_left_b9 := F_left_b9.other W52 (Or.inl (Ne.symm ne_b7_b9))
                  replace F_right_b9 := F_right_b9.other W52 (Or.inl (Ne.symm ne_b7_b9))
                  replace F_red_b9 := F_red_b9.other W52 (Or.inl (Ne.symm ne_b7_b9))
                  replace E_b11 := E_b11.wr W52
                  replace F_left_b11 := F_left_b11.other W52 (Or.inl (Ne.symm ne_b7_b11))
                  replace F_right_b11 := F_right_b11.other W52 (Or.inl (Ne.symm ne_b7_b11))
                  replace F_red_b11 := F_red_b11.other W52 (Or.inl (Ne.symm ne_b7_b11))
                  replace E_b13 := E_b13.wr W52
                  replace F_left_b13 := F_left_b13.other W52 (Or.inl (Ne.symm ne_b7_b13))
                  replace F_right_b13 := F_right_b13.other W52 (Or.inl (Ne.symm ne_b7_b13))
                  replace F_red_b13 := F_red_b13.other W52 (Or.inl (Ne.symm ne_b7_b13))
                  replace E_b15 := E_b15.wr W52
                  replace F_left_b15 := F_left_b15.other W52 (Or.inl (Ne.symm ne_b7_b15))
                  replace F_right_b15 := F_right_b15.other W52 (Or.inl (Ne.symm ne_b7_b15))
                  replace F_red_b15 := F_red_b15.other W52 (Or.inl (Ne.symm ne_b7_b15))
                  have Zs_W52 : n0 ≤ _ := Nat.le_trans Zs_W21 (Keep.of_wr W52).1
                  have N52 := Fr.snoc X52 N21 g_b7
                  refine own_via st52 ?_
                  show OwnEnds p.tables e below _ (T52.setTop (mkF m 224 #[.val (.int p0), .val (.int p1), .val (.int p2), .val (.int (1 : Int32)), .val (.int r0), .val (.int r1), .val (.int r2), .val (.int r3), .val (.int hg), .val (.int dr), .val (.ref b7), .val (.ref b9), .val (.ref b11), .val (.ref b13), .val (.ref b15), .unset, .unset] []))
                  refine own_via (fun t k => XS.aload X52.here hx rfl (hb hby at_224) rfl rfl k) ?_
                  show OwnEnds p.tables e below _ (T52.setTop (mkF m 226 #[.val (.int p0), .val (.int p1), .val (.int p2), .val (.int (1 : Int32)), .val (.int r0), .val (.int r1), .val (.int r2), .val (.int r3), .val (.int hg), .val (.int dr), .val (.ref b7), .val (.ref b9), .val (.ref b11), .val (.ref b13), .val (.ref b15), .unset, .unset] [(.ref b9)]))
                  refine own_via (fun t k => XS.aload X52.here hx rfl (hb hby at_226) rfl rfl k) ?_
                  show OwnEnds p.tables e below _ (T52.setTop (mkF m 228 #[.val (.int p0), .val (.int p1), .val (.int p2), .val (.int (1 : Int32)), .val (.int r0), .val (.int r1), .val (.int r2), .val (.int r3), .val (.int hg), .val (.int dr), .val (.ref b7), .val (.ref b9), .val (.ref b11), .val (.ref b13), .val (.ref b15), .unset, .unset] [(.ref b15), (.ref b9)]))
                  obtain ⟨T53, h53, X53, e53, W53, st53⟩ := putF X52 hx hZ hown (host := "") (Or.inl (hw _ (List.mem_of_getElem? (i := 19) rfl))) Via.refl e52 F_right_b9 E_b9 (Or.inl (hw _ (List.mem_of_getElem? (i := 20) rfl))) (hw _ (List.mem_of_getElem? (i := 1) rfl)) (ty := (.object "com/example/rowan/rowan/Node")) (by decide) rfl rfl (g := (mkF m 228 #[.val (.int p0), .val (.int p1), .val (.int p2), .val (.int (1 : Int32)), .val (.int r0), .val (.int r1), .val (.int r2), .val (.int r3), .val (.int hg), .val (.int dr), .val (.ref b7), .val (.ref b9), .val (.ref b11), .val (.ref b13), .val (.ref b15), .unset, .unset] [(.ref b15), (.ref b9)])) rfl rfl (hb hby at_228)
                  replace E_b7 := E_b7.wr W53
                  replace F_left_b7 := F_left_b7.other W53 (Or.inl ne_b7_b9)
                  replace F_right_b7 := F_right_b7.other W53 (Or.inl ne_b7_b9)
                  replace F_red_b7 := F_red_b7.other W53 (Or.inl ne_b7_b9)
                  replace E_b9 := E_b9.wr W53
                  replace F_left_b9 := F_left_b9.other W53 (Or.inr (slot_ne (Or.inl (hw _ (List.mem_of_getElem? (i := 22) rfl))) (Or.inl (hw _ (List.mem_of_getElem? (i := 20) rfl))) (by decide) (t := (.object "com/example/rowan/rowan/Node")) (t' := (.object "com/example/rowan/rowan/Node")) (by decide) (by decide)))
                  replace F_right_b9 := F_right_b9.same W53
                  replace F_red_b9 := F_red_b9.other W53 (Or.inr (slot_ne (Or.inl (hw _ (List.mem_of_getElem? (i := 14) rfl))) (Or.inl (hw _ (List.mem_of_getElem? (i := 20) rfl))) (by decide) (t := .boolean) (t' := (.object "com/example/rowan/rowan/Node")) (by decide) (by decide)))
                  replace E_b11 := E_b11.wr W53
                  replace F_left_b11 := F_left_b11.other W53 (Or.inl (Ne.symm ne_b9_b11))
                  replace F_right_b11 := F_right_b11.other W53 (Or.inl (Ne.symm ne_b9_b11))
                  replace F_red_b11 := F_red_b11.other W53 (Or.inl (Ne.symm ne_b9_b11))
                  replace E_b13 := E_b13.wr W53
                  replace F_left_b13 := F_left_b13.other W53 (Or.inl (Ne.symm ne_b9_b13))
                  replace F_right_b13 := F_right_b13.other W53 (Or.inl (Ne.symm ne_b9_b13))
                  replace F_red_b13 := F_red_b13.other W53 (Or.inl (Ne.symm ne_b9_b13))
                  replace E_b15 := E_b15.wr W53
                  replace F_left_b15 := F_left_b15.other W53 (Or.inl (Ne.symm ne_b9_b15))
                  replace F_right_b15 := F_right_b15.other W53 (Or.inl (Ne.symm ne_b9_b15))
                  replace F_red_b15 := F_red_b15.other W53 (Or.inl (Ne.symm ne_b9_b15))
                  have Zs_W53 : n0 ≤ _ := Nat.le_trans Zs_W52 (Keep.of_wr W53).1
                  have N53 := Fr.snoc X53 N52 g_b9
                  refine own_via st53 ?_
                  show OwnEnds p.tables e below _ (T53.setTop (mkF m 231 #[.val (.int p0), .val (.int p1), .val (.int p2), .val (.int (1 : Int32)), .val (.int r0), .val (.int r1), .val (.int r2), .val (.int r3), .val (.int hg), .val (.int dr), .val (.ref b7), .val (.ref b9), .val (.ref b11), .val (.ref b13), .val (.ref b15), .unset, .unset] []))
                  refine own_via (fun t k => XS.aload X53.here hx rfl (hb hby at_231) rfl rfl k) ?_
                  show OwnEnds p.tables e below _ (T53.setTop (mkF m 233 #[.val (.int p0), .val (.int p1), .val (.int p2), .val (.int (1 : Int32)), .val (.int r0), .val (.int r1), .val (.int r2), .val (.int r3), .val (.int hg), .val (.int dr), .val (.ref b7), .val (.ref b9), .val (.ref b11), .val (.ref b13), .val (.ref b15), .unset, .unset] [(.ref b11)]))
                  refine own_via (fun t k => XS.aload X53.here hx rfl (hb hby at_233) rfl rfl k) ?_
                  show OwnEnds p.tables e below _ (T53.setTop (mkF m 235 #[.val (.int p0), .val (.int p1), .val (.int p2), .val (.int (1 : Int32)), .val (.int r0), .val (.int r1), .val (.int r2), .val (.int r3), .val (.int hg), .val (.int dr), .val (.ref b7), .val (.ref b9), .val (.ref b11), .val (.ref b13), .val (.ref b15), .unset, .unset] [(.ref b15), (.ref b11)]))
                  obtain ⟨T54, h54, X54, e54, W54, st54⟩ := putF X53 hx hZ hown (host := "") (Or.inl (hw _ (List.mem_of_getElem? (i := 19) rfl))) Via.refl e53 F_right_b11 E_b11 (Or.inl (hw _ (List.mem_of_getElem? (i := 20) rfl))) (hw _ (List.mem_of_getElem? (i := 1) rfl)) (ty := (.object "com/example/rowan/rowan/Node")) (by decide) rfl rfl (g := (mkF m 235 #[.val (.int p0), .val (.int p1), .val (.int p2), .val (.int (1 : Int32)), .val (.int r0), .val (.int r1), .val (.int r2), .val (.int r3), .val (.int hg), .val (.int dr), .val (.ref b7), .val (.ref b9), .val (.ref b11), .val (.ref b13), .val (.ref b15), .unset, .unset] [(.ref b15), (.ref b11)])) rfl rfl (hb hby at_235)
                  replace E_b7 := E_b7.wr W54
                  replace F_left_b7 := F_left_b7.other W54 (Or.inl ne_b7_b11)
                  replace F_right_b7 := F_right_b7.other W54 (Or.inl ne_b7_b11)
                  replace F_red_b7 := F_red_b7.other W54 (Or.inl ne_b7_b11)
                  replace E_b9 := E_b9.wr W54
                  replace F_left_b9 := F_left_b9.other W54 (Or.inl ne_b9_b11)
                  replace F_right_b9 := F_right_b9.other W54 (Or.inl ne_b9_b11)
                  replace F_red_b9 := F_red_b9.other W54 (Or.inl ne_b9_b11)
                  replace E_b11 := E_b11.wr W54
                  replace F_left_b11 := F_left_b11.other W54 (Or.inr (slot_ne (Or.inl (hw _ (List.mem_of_getElem? (i := 22) rfl))) (Or.inl (hw _ (List.mem_of_getElem? (i := 20) rfl))) (by decide) (t := (.object "com/example/rowan/rowan/Node")) (t' := (.object "com/example/rowan/rowan/Node")) (by decide) (by decide)))
                  replace F_right_b11 := F_right_b11.same W54
                  replace F_red_b11 := F_red_b11.other W54 (Or.inr (slot_ne (Or.inl (hw _ (List.mem_of_getElem? (i := 14) rfl))) (Or.inl (hw _ (List.mem_of_getElem? (i := 20) rfl))) (by decide) (t := .boolean) (t' := (.object "com/example/rowan/rowan/Node")) (by decide) (by decide)))
                  replace E_b13 := E_b13.wr W54
                  replace F_left_b13 := F_left_b13.other W54 (Or.inl (Ne.symm ne_b11_b13))
                  replace F_right_b13 := F_right_b13.other W54 (Or.inl (Ne.symm ne_b11_b13))
                  replace F_red_b13 := F_red_b13.other W54 (Or.inl (Ne.symm ne_b11_b13))
                  replace E_b15 := E_b15.wr W54
                  replace F_left_b15 := F_left_b15.other W54 (Or.inl (Ne.symm ne_b11_b15))
                  replace F_right_b15 := F_right_b15.other W54 (Or.inl (Ne.symm ne_b11_b15))
                  replace F_red_b15 := F_red_b15.other W54 (Or.inl (Ne.symm ne_b11_b15))
                  have Zs_W54 : n0 ≤ _ := Nat.le_trans Zs_W53 (Keep.of_wr W54).1
                  have N54 := Fr.snoc X54 N53 g_b11
                  refine own_via st54 ?_
                  show OwnEnds p.tables e below _ (T54.setTop (mkF m 238 #[.val (.int p0), .val (.int p1), .val (.int p2), .val (.int (1 : Int32)), .val (.int r0), .val (.int r1), .val (.int r2), .val (.int r3), .val (.int hg), .val (.int dr), .val (.ref b7), .val (.ref b9), .val (.ref b11), .val (.ref b13), .val (.ref b15), .unset, .unset] []))
                  refine own_via (fun t k => XS.aload X54.here hx rfl (hb hby at_238) rfl rfl k) ?_
                  show OwnEnds p.tables e below _ (T54.setTop (mkF m 240 #[.val (.int p0), .val (.int p1), .val (.int p2), .val (.int (1 : Int32)), .val (.int r0), .val (.int r1), .val (.int r2), .val (.int r3), .val (.int hg), .val (.int dr), .val (.ref b7), .val (.ref b9), .val (.ref b11), .val (.ref b13), .val (.ref b15), .unset, .unset] [(.ref b13)]))
                  refine own_via (fun t k => XS.aload X54.here hx rfl (hb hby at_240) rfl rfl k) ?_
                  show OwnEnds p.tables e below _ (T54.setTop (mkF m 242 #[.val (.int p0), .val (.int p1), .val (.int p2), .val (.int (1 : Int32)), .val (.int r0), .val (.int r1), .val (.int r2), .val (.int r3), .val (.int hg), .val (.int dr), .val (.ref b7), .val (.ref b9), .val (.ref b11), .val (.ref b13), .val (.ref b15), .unset, .unset] [(.ref b15), (.ref b13)]))
                  obtain ⟨T55, h55, X55, e55, W55, st55⟩ := putF X54 hx hZ hown (host := "") (Or.inl (hw _ (List.mem_of_getElem? (i := 19) rfl))) Via.refl e54 F_right_b13 E_b13 (Or.inl (hw _ (List.mem_of_getElem? (i := 20) rfl))) (hw _ (List.mem_of_getElem? (i := 1) rfl)) (ty := (.object "com/example/rowan/rowan/Node")) (by decide) rfl rfl (g := (mkF m 242 #[.val (.int p0), .val (.int p1), .val (.int p2), .val (.int (1 : Int32)), .val (.int r0), .val (.int r1), .val (.int r2), .val (.int r3), .val (.int hg), .val (.int dr), .val (.ref b7), .val (.ref b9), .val (.ref b11), .val (.ref b13), .val (.ref b15), .unset, .unset] [(.ref b15), (.ref b13)])) rfl rfl (hb hby at_242)
                  replace E_b7 := E_b7.wr W55
                  replace F_left_b7 := F_left_b7.other W55 (Or.inl ne_b7_b13)
                  replace F_right_b7 := F_right_b7.other W55 (Or.inl ne_b7_b13)
                  replace F_red_b7 := F_red_b7.other W55 (Or.inl ne_b7_b13)
                  replace E_b9 := E_b9.wr W55
                  replace F_left_b9 := F_left_b9.other W55 (Or.inl ne_b9_b13)
                  replace F_right_b9 := F_right_b9.other W55 (Or.inl ne_b9_b13)
                  replace F_red_b9 := F_red_b9.other W55 (Or.inl ne_b9_b13)
                  replace E_b11 := E_b11.wr W55
                  replace F_left_b11 := F_left_b11.other W55 (Or.inl ne_b11_b13)
                  replace F_right_b11 := F_right_b11.other W55 (Or.inl ne_b11_b13)
                  replace F_red_b11 := F_red_b11.other W55 (Or.inl ne_b11_b13)
                  replace E_b13 := E_b13.wr W55
                  replace F_left_b13 := F_left_b13.other W55 (Or.inr (slot_ne (Or.inl (hw _ (List.mem_of_getElem? (i := 22) rfl))) (Or.inl (hw _ (List.mem_of_getElem? (i := 20) rfl))) (by decide) (t := (.object "com/example/rowan/rowan/Node")) (t' := (.object "com/example/rowan/rowan/Node")) (by decide) (by decide)))
                  replace F_right_b13 := F_right_b13.same W55
                  replace F_red_b13 := F_red_b13.other W55 (Or.inr (slot_ne (Or.inl (hw _ (List.mem_of_getElem? (i := 14) rfl))) (Or.inl (hw _ (List.mem_of_getElem? (i := 20) rfl))) (by decide) (t := .boolean) (t' := (.object "com/example/rowan/rowan/Node")) (by decide) (by decide)))
                  replace E_b15 := E_b15.wr W55
                  replace F_left_b15 := F_left_b15.other W55 (Or.inl (Ne.symm ne_b13_b15))
                  replace F_right_b15 := F_right_b15.other W55 (Or.inl (Ne.symm ne_b13_b15))
                  replace F_red_b15 := F_red_b15.other W55 (Or.inl (Ne.symm ne_b13_b15))
                  have Zs_W55 : n0 ≤ _ := Nat.le_trans Zs_W54 (Keep.of_wr W55).1
                  have N55 := Fr.snoc X55 N54 g_b13
                  refine own_via st55 ?_
                  show OwnEnds p.tables e below _ (T55.setTop (mkF m 245 #[.val (.int p0), .val (.int p1), .val (.int p2), .val (.int (1 : Int32)), .val (.int r0), .val (.int r1), .val (.int r2), .val (.int r3), .val (.int hg), .val (.int dr), .val (.ref b7), .val (.ref b9), .val (.ref b11), .val (.ref b13), .val (.ref b15), .unset, .unset] []))
                  exact J245_41 _ _ _ (own_wide X55 (by decide) (by decide)) e55 N55 Zs_W55 E_b7 F_left_b7 F_red_b7 E_b9 F_left_b9 F_red_b9 E_b11 F_left_b11 F_red_b11 E_b13 F_left_b13 F_red_b13 E_b15 F_left_b15 F_red_b15
              · skip
                subst q
                show OwnEnds p.tables e below _ (T21.setTop (mkF m 176 #[.val (.int p0), .val (.int p1), .val (.int p2), .val (.int (2 : Int32)), .val (.int r0), .val (.int r1), .val (.int r2), .val (.int r3), .val (.int hg), .val (.int dr), .val (.ref b7), .val (.ref b9), .val (.ref b11), .val (.ref b13), .val (.ref b15), .unset, .unset] []))
                refine own_via (fun t k => XS.iloadN X21.here hx rfl (hb hby at_176) rfl k) ?_
                show OwnEnds p.tables e below _ (T21.setTop (mkF m 177 #[.val (.int p0), .val (.int p1), .val (.int p2), .val (.int (2 : Int32)), .val (.int r0), .val (.int r1), .val (.int r2), .val (.int r3), .val (.int hg), .val (.int dr), .val (.ref b7), .val (.ref b9), .val (.ref b11), .val (.ref b13), .val (.ref b15), .unset, .unset] [(.int (2 : Int32))]))
                refine own_via (fun t k => XS.iconst X21.here hx rfl (hb hby at_177) k) ?_
                show OwnEnds p.tables e below _ (T21.setTop (mkF m 178 #[.val (.int p0), .val (.int p1), .val (.int p2), .val (.int (2 : Int32)), .val (.int r0), .val (.int r1), .val (.int r2), .val (.int r3), .val (.int hg), .val (.int dr), .val (.ref b7), .val (.ref b9), .val (.ref b11), .val (.ref b13), .val (.ref b15), .unset, .unset] [(.int (2 : Int32)), (.int (2 : Int32))]))
                have hc178_56 : ¬ ((2 : Int32) < (2 : Int32)) := by decide
                refine own_via (fun t k => XS.icmpNo X21.here hx rfl (hb hby at_178) rfl (flt hc178_56).1 k) ?_
                show OwnEnds p.tables e below _ (T21.setTop (mkF m 181 #[.val (.int p0), .val (.int p1), .val (.int p2), .val (.int (2 : Int32)), .val (.int r0), .val (.int r1), .val (.int r2), .val (.int r3), .val (.int hg), .val (.int dr), .val (.ref b7), .val (.ref b9), .val (.ref b11), .val (.ref b13), .val (.ref b15), .unset, .unset] []))
                refine own_via (fun t k => XS.aload X21.here hx rfl (hb hby at_181) rfl rfl k) ?_
                show OwnEnds p.tables e below _ (T21.setTop (mkF m 183 #[.val (.int p0), .val (.int p1), .val (.int p2), .val (.int (2 : Int32)), .val (.int r0), .val (.int r1), .val (.int r2), .val (.int r3), .val (.int hg), .val (.int dr), .val (.ref b7), .val (.ref b9), .val (.ref b11), .val (.ref b13), .val (.ref b15), .unset, .unset] [(.ref b7)]))
                refine own_via (fun t k => XS.aload X21.here hx rfl (hb hby at_183) rfl rfl k) ?_
                show OwnEnds p.tables e below _ (T21.setTop (mkF m 185 #[.val (.int p0), .val (.int p1), .val (.int p2), .val (.int (2 : Int32)), .val (.int r0), .val (.int r1), .val (.int r2), .val (.int r3), .val (.int hg), .val (.int dr), .val (.ref b7), .val (.ref b9), .val (.ref b11), .val (.ref b13), .val (.ref b15), .unset, .unset] [(.ref b9), (.ref b7)]))
                obtain ⟨T57, h57, X57, e57, W57, st57⟩ := putF X21 hx hZ hown (host := "") (Or.inl (hw _ (List.mem_of_getElem? (i := 23) rfl))) Via.refl e21 F_left_b7 E_b7 (Or.inl (hw _ (List.mem_of_getElem? (i := 22) rfl))) (hw _ (List.mem_of_getElem? (i := 1) rfl)) (ty := (.object "com/example/rowan/rowan/Node")) (by decide) rfl rfl (g := (mkF m 185 #[.val (.int p0), .val (.int p1), .val (.int p2), .val (.int (2 : Int32)), .val (.int r0), .val (.int r1), .val (.int r2), .val (.int r3), .val (.int hg), .val (.int dr), .val (.ref b7), .val (.ref b9), .val (.ref b11), .val (.ref b13), .val (.ref b15), .unset, .unset] [(.ref b9), (.ref b7)])) rfl rfl (hb hby at_185)
                replace E_b7 := E_b7.wr W57
                replace F_left_b7 := F_left_b7.same W57
                replace F_right_b7 := F_right_b7.other W57 (Or.inr (slot_ne (Or.inl (hw _ (List.mem_of_getElem? (i := 20) rfl))) (Or.inl (hw _ (List.mem_of_getElem? (i := 22) rfl))) (by decide) (t := (.object "com/example/rowan/rowan/Node")) (t' := (.object "com/example/rowan/rowan/Node")) (by decide) (by decide)))
                replace F_red_b7 := F_red_b7.other W57 (Or.inr (slot_ne (Or.inl (hw _ (List.mem_of_getElem? (i := 14) rfl))) (Or.inl (hw _ (List.mem_of_getElem? (i := 22) rfl))) (by decide) (t := .boolean) (t' := (.object "com/example/rowan/rowan/Node")) (by decide) (by decide)))
                replace E_b9 := E_b9.wr W57
                replace F_left_b9 := F_left_b9.other W57 (Or.inl (Ne.symm ne_b7_b9))
                replace F_right_b9 := F_right_b9.other W57 (Or.inl (Ne.symm ne_b7_b9))
                replace F_red_b9 := F_red_b9.other W57 (Or.inl (Ne.symm ne_b7_b9))
                replace E_b11 := E_b11.wr W57
                replace F_left_b11 := F_left_b11.other W57 (Or.inl (Ne.symm ne_b7_b11))
                replace F_right_b11 := F_right_b11.other W57 (Or.inl (Ne.symm ne_b7_b11))
                replace F_red_b11 := F_red_b11.other W57 (Or.inl (Ne.symm ne_b7_b11))
                replace E_b13 := E_b13.wr W57
                replace F_left_b13 := F_left_b13.other W57 (Or.inl (Ne.symm ne_b7_b13))
                replace F_right_b13 := F_right_b13.other W57 (Or.inl (Ne.symm ne_b7_b13))
                replace F_red_b13 := F_red_b13.other W57 (Or.inl (Ne.symm ne_b7_b13))
                replace E_b15 := E_b15.wr W57
                replace F_left_b15 := F_left_b15.other W57 (Or.inl (Ne.symm ne_b7_b15))
                replace F_right_b15 := F_right_b15.other W57 (Or.inl (Ne.symm ne_b7_b15))
                replace F_red_b15 := F_red_b15.other W57 (Or.inl (Ne.symm ne_b7_b15))
                have Zs_W57 : n0 ≤ _ := Nat.le_trans Zs_W21 (Keep.of_wr W57).1
                have N57 := Fr.snoc X57 N21 g_b7
                refine own_via st57 ?_
                show OwnEnds p.tables e below _ (T57.setTop (mkF m 188 #[.val (.int p0), .val (.int p1), .val (.int p2), .val (.int (2 : Int32)), .val (.int r0), .val (.int r1), .val (.int r2), .val (.int r3), .val (.int hg), .val (.int dr), .val (.ref b7), .val (.ref b9), .val (.ref b11), .val (.ref b13), .val (.ref b15), .unset, .unset] []))
                refine own_via (fun t k => XS.iloadN X57.here hx rfl (hb hby at_188) rfl k) ?_
                show OwnEnds p.tables e below _ (T57.setTop (mkF m 189 #[.val (.int p0), .val (.int p1), .val (.int p2), .val (.int (2 : Int32)), .val (.int r0), .val (.int r1), .val (.int r2), .val (.int r3), .val (.int hg), .val (.int dr), .val (.ref b7), .val (.ref b9), .val (.ref b11), .val (.ref b13), .val (.ref b15), .unset, .unset] [(.int (2 : Int32))]))
                refine own_via (fun t k => XS.iconst X57.here hx rfl (hb hby at_189) k) ?_
                show OwnEnds p.tables e below _ (T57.setTop (mkF m 190 #[.val (.int p0), .val (.int p1), .val (.int p2), .val (.int (2 : Int32)), .val (.int r0), .val (.int r1), .val (.int r2), .val (.int r3), .val (.int hg), .val (.int dr), .val (.ref b7), .val (.ref b9), .val (.ref b11), .val (.ref b13), .val (.ref b15), .unset, .unset] [(.int (3 : Int32)), (.int (2 : Int32))]))
                have hc190_58 : (2 : Int32) < (3 : Int32) := by decide
                refine own_via (fun t k => XS.icmpYes X57.here hx rfl (pc0 := 190) (pc' := 200) rfl (hb hby at_190) rfl (tlt hc190_58).1 (by decide) (by decide) k) ?_
                show OwnEnds p.tables e below _ (T57.setTop (mkF m 200 #[.val (.int p0), .val (.int p1), .val (.int p2), .val (.int (2 : Int32)), .val (.int r0), .val (.int r1), .val (.int r2), .val (.int r3), .val (.int hg), .val (.int dr), .val (.ref b7), .val (.ref b9), .val (.ref b11), .val (.ref b13), .val (.ref b15), .unset, .unset] []))
                refine own_via (fun t k => XS.iloadN X57.here hx rfl (hb hby at_200) rfl k) ?_
                show OwnEnds p.tables e below _ (T57.setTop (mkF m 201 #[.val (.int p0), .val (.int p1), .val (.int p2), .val (.int (2 : Int32)), .val (.int r0), .val (.int r1), .val (.int r2), .val (.int r3), .val (.int hg), .val (.int dr), .val (.ref b7), .val (.ref b9), .val (.ref b11), .val (.ref b13), .val (.ref b15), .unset, .unset] [(.int (2 : Int32))]))
                refine own_via (fun t k => XS.iconst X57.here hx rfl (hb hby at_201) k) ?_
                show OwnEnds p.tables e below _ (T57.setTop (mkF m 202 #[.val (.int p0), .val (.int p1), .val (.int p2), .val (.int (2 : Int32)), .val (.int r0), .val (.int r1), .val (.int r2), .val (.int r3), .val (.int hg), .val (.int dr), .val (.ref b7), .val (.ref b9), .val (.ref b11), .val (.ref b13), .val (.ref b15), .unset, .unset] [(.int (4 : Int32)), (.int (2 : Int32))]))
                have hc202_59 : (2 : Int32) < (4 : Int32) := by decide
                refine own_via (fun t k => XS.icmpYes X57.here hx rfl (pc0 := 202) (pc' := 212) rfl (hb hby at_202) rfl (tlt hc202_59).1 (by decide) (by decide) k) ?_
                show OwnEnds p.tables e below _ (T57.setTop (mkF m 212 #[.val (.int p0), .val (.int p1), .val (.int p2), .val (.int (2 : Int32)), .val (.int r0), .val (.int r1), .val (.int r2), .val (.int r3), .val (.int hg), .val (.int dr), .val (.ref b7), .val (.ref b9), .val (.ref b11), .val (.ref b13), .val (.ref b15), .unset, .unset] []))
                refine own_via (fun t k => XS.iload X57.here hx rfl (hb hby at_212) rfl k) ?_
                show OwnEnds p.tables e below _ (T57.setTop (mkF m 214 #[.val (.int p0), .val (.int p1), .val (.int p2), .val (.int (2 : Int32)), .val (.int r0), .val (.int r1), .val (.int r2), .val (.int r3), .val (.int hg), .val (.int dr), .val (.ref b7), .val (.ref b9), .val (.ref b11), .val (.ref b13), .val (.ref b15), .unset, .unset] [(.int hg)]))
                have J245_60 : ∀ (TJ245_60 : State) (hJ245_60 : Heap) (locsJ245_60 : List Loc), Stand p l e room_1 s m #[(.int p0), (.int p1), (.int p2)] below meth c TJ245_60 locsJ245_60 5 35 → TJ245_60.heap = hJ245_60 → Fr n0 locsJ245_60 → n0 ≤ hJ245_60.size → Exa Z hJ245_60 b7 "com/example/rowan/rowan/Node" → Fld Z hJ245_60 b7 "com/example/rowan/rowan/Node" "left" "Lcom/example/rowan/rowan/Node;" (.ref b9) → Fld Z hJ245_60 b7 "com/example/rowan/rowan/Node" "red" "Z" (.int r0) → Exa Z hJ245_60 b9 "com/example/rowan/rowan/Node" → Fld Z hJ245_60 b9 "com/example/rowan/rowan/Node" "left" "Lcom/example/rowan/rowan/Node;" .null → Fld Z hJ245_60 b9 "com/example/rowan/rowan/Node" "red" "Z" (.int r1) → Exa Z hJ245_60 b11 "com/example/rowan/rowan/Node" → Fld Z hJ245_60 b11 "com/example/rowan/rowan/Node" "left" "Lcom/example/rowan/rowan/Node;" .null → Fld Z hJ245_60 b11 "com/example/rowan/rowan/Node" "red" "Z" (.int r2) → Exa Z hJ245_60 b13 "com/example/rowan/rowan/Node" → Fld Z hJ245_60 b13 "com/example/rowan/rowan/Node" "left" "Lcom/example/rowan/rowan/Node;" .null → Fld Z hJ245_60 b13 "com/example/rowan/rowan/Node" "red" "Z" (.int r3) → Exa Z hJ245_60 b15 "com/example/rowan/rowan/Node" → Fld Z hJ245_60 b15 "com/example/rowan/rowan/Node" "left" "Lcom/example/rowan/rowan/Node;" .null → Fld Z hJ245_60 b15 "com/example/rowan/rowan/Node" "red" "Z" (.int dr) → OwnEnds p.tables e below (OwnQ s 24 192 (Q0 Z p0 p1 p2 h0 n0)) (TJ245_60.setTop (mkF m 245 #[.val (.int p0), .val (.int p1), .val (.int p2), .val (.int (2 : Int32)), .val (.int r0), .val (.int r1), .val (.int r2), .val (.int r3), .val (.int hg), .val (.int dr), .val (.ref b7), .val (.ref b9), .val (.ref b11), .val (.ref b13), .val (.ref b15), .unset, .unset] [])) := by
                  intro TJ245_60 hJ245_60 locsJ245_60 XJ245_60 eJ245_60 NJ245_60 ZsJ245_60 E_b7 F_left_b7 F_red_b7 E_b9 F_left_b9 F_red_b9 E_b11 F_left_b11 F_red_b11 E_b13 F_left_b13 F_red_b13 E_b15 F_left_b15 F_red_b15
                  refine own_via (fun t k => XS.iloadN XJ245_60.here hx rfl (hb hby at_245) rfl k) ?_
                  show OwnEnds p.tables e below _ (TJ245_60.setTop (mkF m 246 #[.val (.int p0), .val (.int p1), .val (.int p2), .val (.int (2 : Int32)), .val (.int r0), .val (.int r1), .val (.int r2), .val (.int r3), .val (.int hg), .val (.int dr), .val (.ref b7), .val (.ref b9), .val (.ref b11), .val (.ref b13), .val (.ref b15), .unset, .unset] [(.int (2 : Int32))]))
                  have hc246_61 : ¬ ((2 : Int32) = (0 : Int32)) := by decide
                  refine own_via (fun t k => XS.ifYes XJ245_60.here hx rfl (pc0 := 246) (pc' := 253) rfl (hb hby at_246) rfl ((if0 _ _).trans (feq hc246_61).2) (by decide) (by decide) k) ?_
                  show OwnEnds p.tables e below _ (TJ245_60.setTop (mkF m 253 #[.val (.int p0), .val (.int p1), .val (.int p2), .val (.int (2 : Int32)), .val (.int r0), .val (.int r1), .val (.int r2), .val (.int r3), .val (.int hg), .val (.int dr), .val (.ref b7), .val (.ref b9), .val (.ref b11), .val (.ref b13), .val (.ref b15), .unset, .unset] []))
                  refine own_via (fun t k => XS.aload XJ245_60.here hx rfl (hb hby at_253) rfl rfl k) ?_
                  show OwnEnds p.tables e below _ (TJ245_60.setTop (mkF m 255 #[.val (.int p0), .val (.int p1), .val (.int p2), .val (.int (2 : Int32)), .val (.int r0), .val (.int r1), .val (.int r2), .val (.int r3), .val (.int hg), .val (.int dr), .val (.ref b7), .val (.ref b9), .val (.ref b11), .val (.ref b13), .val (.ref b15), .unset, .unset] [(.ref b7)]))
                  refine own_via (fun t k => XS.astore XJ245_60.here hx rfl (hb hby at_255) rfl rfl (l' := #[.val (.int p0), .val (.int p1), .val (.int p2), .val (.int (2 : Int32)), .val (.int r0), .val (.int r1), .val (.int r2), .val (.int r3), .val (.int hg), .val (.int dr), .val (.ref b7), .val (.ref b9), .val (.ref b11), .val (.ref b13), .val (.ref b15), .val (.ref b7), .unset]) rfl k) ?_
                  show OwnEnds p.tables e below _ (TJ245_60.setTop (mkF m 257 #[.val (.int p0), .val (.int p1), .val (.int p2), .val (.int (2 : Int32)), .val (.int r0), .val (.int r1), .val (.int r2), .val (.int r3), .val (.int hg), .val (.int dr), .val (.ref b7), .val (.ref b9), .val (.ref b11), .val (.ref b13), .val (.ref b15), .val (.ref b7), .unset] []))
                  refine own_via (fun t k => XS.iconst XJ245_60.here hx rfl (hb hby at_257) k) ?_
                  show OwnEnds p.tables e below _ (TJ245_60.setTop (mkF m 258 #[.val (.int p0), .val (.int p1), .val (.int p2), .val (.int (2 : Int32)), .val (.int r0), .val (.int r1), .val (.int r2), .val (.int r3), .val (.int hg), .val (.int dr), .val (.ref b7), .val (.ref b9), .val (.ref b11), .val (.ref b13), .val (.ref b15), .val (.ref b7), .unset] [(.int (0 : Int32))]))
                  refine own_via (fun t k => XS.istore XJ245_60.here hx rfl (hb hby at_258) rfl (l' := #[.val (.int p0), .val (.int p1), .val (.int p2), .val (.int (2 : Int32)), .val (.int r0), .val (.int r1), .val (.int r2), .val (.int r3), .val (.int hg), .val (.int dr), .val (.ref b7), .val (.ref b9), .val (.ref b11), .val (.ref b13), .val (.ref b15), .val (.ref b7), .val (.int (0 : Int32))]) rfl k) ?_
                  show OwnEnds p.tables e below _ (TJ245_60.setTop (mkF m 260 #[.val (.int p0), .val (.int p1), .val (.int p2), .val (.int (2 : Int32)), .val (.int r0), .val (.int r1), .val (.int r2), .val (.int r3), .val (.int hg), .val (.int dr), .val (.ref b7), .val (.ref b9), .val (.ref b11), .val (.ref b13), .val (.ref b15), .val (.ref b7), .val (.int (0 : Int32))] []))
                  refine own_via (fun t k => XS.iloadN XJ245_60.here hx rfl (hb hby at_260) rfl k) ?_
                  show OwnEnds p.tables e below _ (TJ245_60.setTop (mkF m 261 #[.val (.int p0), .val (.int p1), .val (.int p2), .val (.int (2 : Int32)), .val (.int r0), .val (.int r1), .val (.int r2), .val (.int r3), .val (.int hg), .val (.int dr), .val (.ref b7), .val (.ref b9), .val (.ref b11), .val (.ref b13), .val (.ref b15), .val (.ref b7), .val (.int (0 : Int32))] [(.int (2 : Int32))]))
                  refine own_via (fun t k => XS.iconst XJ245_60.here hx rfl (hb hby at_261) k) ?_
                  show OwnEnds p.tables e below _ (TJ245_60.setTop (mkF m 262 #[.val (.int p0), .val (.int p1), .val (.int p2), .val (.int (2 : Int32)), .val (.int r0), .val (.int r1), .val (.int r2), .val (.int r3), .val (.int hg), .val (.int dr), .val (.ref b7), .val (.ref b9), .val (.ref b11), .val (.ref b13), .val (.ref b15), .val (.ref b7), .val (.int (0 : Int32))] [(.int (1 : Int32)), (.int (2 : Int32))]))
                  have hc262_62 : ¬ ((2 : Int32) < (1 : Int32)) := by decide
                  refine own_via (fun t k => XS.icmpNo XJ245_60.here hx rfl (hb hby at_262) rfl (flt hc262_62).1 k) ?_
                  show OwnEnds p.tables e below _ (TJ245_60.setTop (mkF m 265 #[.val (.int p0), .val (.int p1), .val (.int p2), .val (.int (2 : Int32)), .val (.int r0), .val (.int r1), .val (.int r2), .val (.int r3), .val (.int hg), .val (.int dr), .val (.ref b7), .val (.ref b9), .val (.ref b11), .val (.ref b13), .val (.ref b15), .val (.ref b7), .val (.int (0 : Int32))] []))
                  refine own_via (fun t k => XS.iload XJ245_60.here hx rfl (hb hby at_265) rfl k) ?_
                  show OwnEnds p.tables e below _ (TJ245_60.setTop (mkF m 267 #[.val (.int p0), .val (.int p1), .val (.int p2), .val (.int (2 : Int32)), .val (.int r0), .val (.int r1), .val (.int r2), .val (.int r3), .val (.int hg), .val (.int dr), .val (.ref b7), .val (.ref b9), .val (.ref b11), .val (.ref b13), .val (.ref b15), .val (.ref b7), .val (.int (0 : Int32))] [(.int r0)]))
                  have J273_63 : ∀ ev1 : Int32, ev1 = (if r0 = (0 : Int32) then (1 : Int32) else (0 : Int32)) → OwnEnds p.tables e below (OwnQ s 24 192 (Q0 Z p0 p1 p2 h0 n0)) (TJ245_60.setTop (mkF m 273 #[.val (.int p0), .val (.int p1), .val (.int p2), .val (.int (2 : Int32)), .val (.int r0), .val (.int r1), .val (.int r2), .val (.int r3), .val (.int hg), .val (.int dr), .val (.ref b7), .val (.ref b9), .val (.ref b11), .val (.ref b13), .val (.ref b15), .val (.ref b7), .val (.int ev1)] [])) := by
                    intro ev1 h_ev1
                    refine own_via (fun t k => XS.iloadN XJ245_60.here hx rfl (hb hby at_273) rfl k) ?_
                    show OwnEnds p.tables e below _ (TJ245_60.setTop (mkF m 274 #[.val (.int p0), .val (.int p1), .val (.int p2), .val (.int (2 : Int32)), .val (.int r0), .val (.int r1), .val (.int r2), .val (.int r3), .val (.int hg), .val (.int dr), .val (.ref b7), .val (.ref b9), .val (.ref b11), .val (.ref b13), .val (.ref b15), .val (.ref b7), .val (.int ev1)] [(.int (2 : Int32))]))
                    refine own_via (fun t k => XS.iconst XJ245_60.here hx rfl (hb hby at_274) k) ?_
                    show OwnEnds p.tables e below _ (TJ245_60.setTop (mkF m 275 #[.val (.int p0), .val (.int p1), .val (.int p2), .val (.int (2 : Int32)), .val (.int r0), .val (.int r1), .val (.int r2), .val (.int r3), .val (.int hg), .val (.int dr), .val (.ref b7), .val (.ref b9), .val (.ref b11), .val (.ref b13), .val (.ref b15), .val (.ref b7), .val (.int ev1)] [(.int (2 : Int32)), (.int (2 : Int32))]))
                    have hc275_64 : ¬ ((2 : Int32) < (2 : Int32)) := by decide
                    refine own_via (fun t k => XS.icmpNo XJ245_60.here hx rfl (hb hby at_275) rfl (flt hc275_64).1 k) ?_
                    show OwnEnds p.tables e below _ (TJ245_60.setTop (mkF m 278 #[.val (.int p0), .val (.int p1), .val (.int p2), .val (.int (2 : Int32)), .val (.int r0), .val (.int r1), .val (.int r2), .val (.int r3), .val (.int hg), .val (.int dr), .val (.ref b7), .val (.ref b9), .val (.ref b11), .val (.ref b13), .val (.ref b15), .val (.ref b7), .val (.int ev1)] []))
                    refine own_via (fun t k => XS.iload XJ245_60.here hx rfl (hb hby at_278) rfl k) ?_
                    show OwnEnds p.tables e below _ (TJ245_60.setTop (mkF m 280 #[.val (.int p0), .val (.int p1), .val (.int p2), .val (.int (2 : Int32)), .val (.int r0), .val (.int r1), .val (.int r2), .val (.int r3), .val (.int hg), .val (.int dr), .val (.ref b7), .val (.ref b9), .val (.ref b11), .val (.ref b13), .val (.ref b15), .val (.ref b7), .val (.int ev1)] [(.int r1)]))
                    have J286_65 : ∀ ev2 : Int32, ev2 = (if r1 = (0 : Int32) then (ev1 + (1 : Int32)) else ev1) → OwnEnds p.tables e below (OwnQ s 24 192 (Q0 Z p0 p1 p2 h0 n0)) (TJ245_60.setTop (mkF m 286 #[.val (.int p0), .val (.int p1), .val (.int p2), .val (.int (2 : Int32)), .val (.int r0), .val (.int r1), .val (.int r2), .val (.int r3), .val (.int hg), .val (.int dr), .val (.ref b7), .val (.ref b9), .val (.ref b11), .val (.ref b13), .val (.ref b15), .val (.ref b7), .val (.int ev2)] [])) := by
                      intro ev2 h_ev2
                      refine own_via (fun t k => XS.iloadN XJ245_60.here hx rfl (hb hby at_286) rfl k) ?_
                      show OwnEnds p.tables e below _ (TJ245_60.setTop (mkF m 287 #[.val (.int p0), .val (.int p1), .val (.int p2), .val (.int (2 : Int32)), .val (.int r0), .val (.int r1), .val (.int r2), .val (.int r3), .val (.int hg), .val (.int dr), .val (.ref b7), .val (.ref b9), .val (.ref b11), .val (.ref b13), .val (.ref b15), .val (.ref b7), .val (.int ev2)] [(.int (2 : Int32))]))
                      refine own_via (fun t k => XS.iconst XJ245_60.here hx rfl (hb hby at_287) k) ?_
                      show OwnEnds p.tables e below _ (TJ245_60.setTop (mkF m 288 #[.val (.int p0), .val (.int p1), .val (.int p2), .val (.int (2 : Int32)), .val (.int r0), .val (.int r1), .val (.int r2), .val (.int r3), .val (.int hg), .val (.int dr), .val (.ref b7), .val (.ref b9), .val (.ref b11), .val (.ref b13), .val (.ref b15), .val (.ref b7), .val (.int ev2)] [(.int (3 : Int32)), (.int (2 : Int32))]))
                      have hc288_66 : (2 : Int32) < (3 : Int32) := by decide
                      refine own_via (fun t k => XS.icmpYes XJ245_60.here hx rfl (pc0 := 288) (pc' := 299) rfl (hb hby at_288) rfl (tlt hc288_66).1 (by decide) (by decide) k) ?_
                      show OwnEnds p.tables e below _ (TJ245_60.setTop (mkF m 299 #[.val (.int p0), .val (.int p1), .val (.int p2), .val (.int (2 : Int32)), .val (.int r0), .val (.int r1), .val (.int r2), .val (.int r3), .val (.int hg), .val (.int dr), .val (.ref b7), .val (.ref b9), .val (.ref b11), .val (.ref b13), .val (.ref b15), .val (.ref b7), .val (.int ev2)] []))
                      refine own_via (fun t k => XS.iloadN XJ245_60.here hx rfl (hb hby at_299) rfl k) ?_
                      show OwnEnds p.tables e below _ (TJ245_60.setTop (mkF m 300 #[.val (.int p0), .val (.int p1), .val (.int p2), .val (.int (2 : Int32)), .val (.int r0), .val (.int r1), .val (.int r2), .val (.int r3), .val (.int hg), .val (.int dr), .val (.ref b7), .val (.ref b9), .val (.ref b11), .val (.ref b13), .val (.ref b15), .val (.ref b7), .val (.int ev2)] [(.int (2 : Int32))]))
                      refine own_via (fun t k => XS.iconst XJ245_60.here hx rfl (hb hby at_300) k) ?_
                      show OwnEnds p.tables e below _ (TJ245_60.setTop (mkF m 301 #[.val (.int p0), .val (.int p1), .val (.int p2), .val (.int (2 : Int32)), .val (.int r0), .val (.int r1), .val (.int r2), .val (.int r3), .val (.int hg), .val (.int dr), .val (.ref b7), .val (.ref b9), .val (.ref b11), .val (.ref b13), .val (.ref b15), .val (.ref b7), .val (.int ev2)] [(.int (4 : Int32)), (.int (2 : Int32))]))
                      have hc301_67 : (2 : Int32) < (4 : Int32) := by decide
                      refine own_via (fun t k => XS.icmpYes XJ245_60.here hx rfl (pc0 := 301) (pc' := 312) rfl (hb hby at_301) rfl (tlt hc301_67).1 (by decide) (by decide) k) ?_
                      show OwnEnds p.tables e below _ (TJ245_60.setTop (mkF m 312 #[.val (.int p0), .val (.int p1), .val (.int p2), .val (.int (2 : Int32)), .val (.int r0), .val (.int r1), .val (.int r2), .val (.int r3), .val (.int hg), .val (.int dr), .val (.ref b7), .val (.ref b9), .val (.ref b11), .val (.ref b13), .val (.ref b15), .val (.ref b7), .val (.int ev2)] []))
                      refine own_via (fun t k => XS.aload XJ245_60.here hx rfl (hb hby at_312) rfl rfl k) ?_
                      show OwnEnds p.tables e below _ (TJ245_60.setTop (mkF m 314 #[.val (.int p0), .val (.int p1), .val (.int p2), .val (.int (2 : Int32)), .val (.int r0), .val (.int r1), .val (.int r2), .val (.int r3), .val (.int hg), .val (.int dr), .val (.ref b7), .val (.ref b9), .val (.ref b11), .val (.ref b13), .val (.ref b15), .val (.ref b7), .val (.int ev2)] [(.ref b7)]))
                      obtain ⟨_, _, ⟨T68, L68, k68, n68⟩, -, X68, ⟨Lc68, hQ68, l68, y68, z68⟩, st68⟩ := Jvm.LawKit.callS XJ245_60 hx (y := (⟨"com/example/rowan/rowan/Node", "blackHeight", "(Lcom/example/rowan/rowan/Node;)I"⟩ : MethodName)) hown (mvT hZ (hw _ (List.mem_of_getElem? (i := 16) rfl))) (mvT hZ (hw _ (List.mem_of_getElem? (i := 17) rfl))) (mvT hZ (hw _ (List.mem_of_getElem? (i := 2) rfl))) (mvT hZ (hw _ (List.mem_of_getElem? (i := 18) rfl))) (by decide) (backOf (W := 0) (rm3 l Z aw hw [] (.ref b7) [r0, r1] hJ245_60 n0 ZsJ245_60 ⟨b7, _, rfl, F_red_b7, F_left_b7, ⟨b9, _, rfl, F_red_b9, F_left_b9, (rfl : OwnCh Z hJ245_60 .null [])⟩⟩ rfl) hZ (hw _ (List.mem_of_getElem? (i := 18) rfl)) (hw _ (List.mem_of_getElem? (i := 2) rfl)) (by decide) (by decide)) (g := (mkF m 314 #[.val (.int p0), .val (.int p1), .val (.int p2), .val (.int (2 : Int32)), .val (.int r0), .val (.int r1), .val (.int r2), .val (.int r3), .val (.int hg), .val (.int dr), .val (.ref b7), .val (.ref b9), .val (.ref b11), .val (.ref b13), .val (.ref b15), .val (.ref b7), .val (.int ev2)] [(.ref b7)])) rfl (by rw [hml]; rfl) (argsL := [(.ref b7)]) (rest := []) (lenOf pd_1 rfl) rfl (by show 2 * 0 + _ ≤ _; exact Nat.le_of_eq rfl) (hb hby at_314) (fun _ _ => ⟨rfl, eJ245_60, (by decide : 5 + 0 ≤ _), (by decide : 35 + 0 ≤ _)⟩)
                      dsimp only [Pt.U, Pt.locs, Pt.cells, Pt.slots] at X68 l68 y68 z68 st68 hQ68
                      subst l68 y68 z68
                      obtain ⟨rfl, Nq68, e68⟩ := hQ68
                      have N68 := Fr.app NJ245_60 Nq68
                      replace e68 : T68.heap = hJ245_60 := e68
                      refine own_via st68 ?_
                      show OwnEnds p.tables e below _ (T68.setTop (mkF m 317 #[.val (.int p0), .val (.int p1), .val (.int p2), .val (.int (2 : Int32)), .val (.int r0), .val (.int r1), .val (.int r2), .val (.int r3), .val (.int hg), .val (.int dr), .val (.ref b7), .val (.ref b9), .val (.ref b11), .val (.ref b13), .val (.ref b15), .val (.ref b7), .val (.int ev2)] [(.int (own_bh [r0, r1]))]))
                      refine own_via (fun t k => XS.iload X68.here hx rfl (hb hby at_317) rfl k) ?_
                      show OwnEnds p.tables e below _ (T68.setTop (mkF m 319 #[.val (.int p0), .val (.int p1), .val (.int p2), .val (.int (2 : Int32)), .val (.int r0), .val (.int r1), .val (.int r2), .val (.int r3), .val (.int hg), .val (.int dr), .val (.ref b7), .val (.ref b9), .val (.ref b11), .val (.ref b13), .val (.ref b15), .val (.ref b7), .val (.int ev2)] [(.int ev2), (.int (own_bh [r0, r1]))]))
                      have hc319_69 : (own_bh [r0, r1]) = ev2 := own_b2 h_ev1 h_ev2
                      refine own_via (fun t k => XS.icmpNo X68.here hx rfl (hb hby at_319) rfl (teq hc319_69).2 k) ?_
                      show OwnEnds p.tables e below _ (T68.setTop (mkF m 322 #[.val (.int p0), .val (.int p1), .val (.int p2), .val (.int (2 : Int32)), .val (.int r0), .val (.int r1), .val (.int r2), .val (.int r3), .val (.int hg), .val (.int dr), .val (.ref b7), .val (.ref b9), .val (.ref b11), .val (.ref b13), .val (.ref b15), .val (.ref b7), .val (.int ev2)] []))
                      refine own_via (fun t k => XS.iconst X68.here hx rfl (hb hby at_322) k) ?_
                      show OwnEnds p.tables e below _ (T68.setTop (mkF m 323 #[.val (.int p0), .val (.int p1), .val (.int p2), .val (.int (2 : Int32)), .val (.int r0), .val (.int r1), .val (.int r2), .val (.int r3), .val (.int hg), .val (.int dr), .val (.ref b7), .val (.ref b9), .val (.ref b11), .val (.ref b13), .val (.ref b15), .val (.ref b7), .val (.int ev2)] [(.int (1 : Int32))]))
                      refine own_via (fun t k => XS.goto X68.here hx rfl (pc0 := 323) (pc' := 327) rfl (hb hby at_323) (by decide) (by decide) k) ?_
                      show OwnEnds p.tables e below _ (T68.setTop (mkF m 327 #[.val (.int p0), .val (.int p1), .val (.int p2), .val (.int (2 : Int32)), .val (.int r0), .val (.int r1), .val (.int r2), .val (.int r3), .val (.int hg), .val (.int dr), .val (.ref b7), .val (.ref b9), .val (.ref b11), .val (.ref b13), .val (.ref b15), .val (.ref b7), .val (.int ev2)] [(.int (1 : Int32))]))
                      refine own_retN (t := .boolean) X68 hx Bd.returns (by simp) hlk (hb hby at_327) ?_ (by decide) (by decide)
                      rw [e68]
                      exact ⟨rfl, N68⟩
                    by_cases hc280_70 : r1 = (0 : Int32)
                    · skip
                      refine own_via (fun t k => XS.ifNo XJ245_60.here hx rfl (hb hby at_280) rfl ((if0 _ _).trans (teq hc280_70).2) k) ?_
                      show OwnEnds p.tables e below _ (TJ245_60.setTop (mkF m 283 #[.val (.int p0), .val (.int p1), .val (.int p2), .val (.int (2 : Int32)), .val (.int r0), .val (.int r1), .val (.int r2), .val (.int r3), .val (.int hg), .val (.int dr), .val (.ref b7), .val (.ref b9), .val (.ref b11), .val (.ref b13), .val (.ref b15), .val (.ref b7), .val (.int ev1)] []))
                      refine own_via (fun t k => XS.iinc XJ245_60.here hx rfl (hb hby at_283) rfl (l' := #[.val (.int p0), .val (.int p1), .val (.int p2), .val (.int (2 : Int32)), .val (.int r0), .val (.int r1), .val (.int r2), .val (.int r3), .val (.int hg), .val (.int dr), .val (.ref b7), .val (.ref b9), .val (.ref b11), .val (.ref b13), .val (.ref b15), .val (.ref b7), .val (.int (ev1 + (1 : Int32)))]) rfl k) ?_
                      show OwnEnds p.tables e below _ (TJ245_60.setTop (mkF m 286 #[.val (.int p0), .val (.int p1), .val (.int p2), .val (.int (2 : Int32)), .val (.int r0), .val (.int r1), .val (.int r2), .val (.int r3), .val (.int hg), .val (.int dr), .val (.ref b7), .val (.ref b9), .val (.ref b11), .val (.ref b13), .val (.ref b15), .val (.ref b7), .val (.int (ev1 + (1 : Int32)))] []))
                      exact J286_65 _ (by simp only [if_pos hc280_70])
                    · skip
                      refine own_via (fun t k => XS.ifYes XJ245_60.here hx rfl (pc0 := 280) (pc' := 286) rfl (hb hby at_280) rfl ((if0 _ _).trans (feq hc280_70).2) (by decide) (by decide) k) ?_
                      show OwnEnds p.tables e below _ (TJ245_60.setTop (mkF m 286 #[.val (.int p0), .val (.int p1), .val (.int p2), .val (.int (2 : Int32)), .val (.int r0), .val (.int r1), .val (.int r2), .val (.int r3), .val (.int hg), .val (.int dr), .val (.ref b7), .val (.ref b9), .val (.ref b11), .val (.ref b13), .val (.ref b15), .val (.ref b7), .val (.int ev1)] []))
                      exact J286_65 _ (by simp only [if_neg hc280_70])
                  by_cases hc267_71 : r0 = (0 : Int32)
                  · skip
                    refine own_via (fun t k => XS.ifNo XJ245_60.here hx rfl (hb hby at_267) rfl ((if0 _ _).trans (teq hc267_71).2) k) ?_
                    show OwnEnds p.tables e below _ (TJ245_60.setTop (mkF m 270 #[.val (.int p0), .val (.int p1), .val (.int p2), .val (.int (2 : Int32)), .val (.int r0), .val (.int r1), .val (.int r2), .val (.int r3), .val (.int hg), .val (.int dr), .val (.ref b7), .val (.ref b9), .val (.ref b11), .val (.ref b13), .val (.ref b15), .val (.ref b7), .val (.int (0 : Int32))] []))
                    refine own_via (fun t k => XS.iinc XJ245_60.here hx rfl (hb hby at_270) rfl (l' := #[.val (.int p0), .val (.int p1), .val (.int p2), .val (.int (2 : Int32)), .val (.int r0), .val (.int r1), .val (.int r2), .val (.int r3), .val (.int hg), .val (.int dr), .val (.ref b7), .val (.ref b9), .val (.ref b11), .val (.ref b13), .val (.ref b15), .val (.ref b7), .val (.int (1 : Int32))]) rfl k) ?_
                    show OwnEnds p.tables e below _ (TJ245_60.setTop (mkF m 273 #[.val (.int p0), .val (.int p1), .val (.int p2), .val (.int (2 : Int32)), .val (.int r0), .val (.int r1), .val (.int r2), .val (.int r3), .val (.int hg), .val (.int dr), .val (.ref b7), .val (.ref b9), .val (.ref b11), .val (.ref b13), .val (.ref b15), .val (.ref b7), .val (.int (1 : Int32))] []))
                    exact J273_63 _ (by simp only [if_pos hc267_71])
                  · skip
                    refine own_via (fun t k => XS.ifYes XJ245_60.here hx rfl (pc0 := 267) (pc' := 273) rfl (hb hby at_267) rfl ((if0 _ _).trans (feq hc267_71).2) (by decide) (by decide) k) ?_
                    show OwnEnds p.tables e below _ (TJ245_60.setTop (mkF m 273 #[.val (.int p0), .val (.int p1), .val (.int p2), .val (.int (2 : Int32)), .val (.int r0), .val (.int r1), .val (.int r2), .val (.int r3), .val (.int hg), .val (.int dr), .val (.ref b7), .val (.ref b9), .val (.ref b11), .val (.ref b13), .val (.ref b15), .val (.ref b7), .val (.int (0 : Int32))] []))
                    exact J273_63 _ (by simp only [if_neg hc267_71])
                by_cases hc214_72 : hg = (0 : Int32)
                · skip
                  refine own_via (fun t k => XS.ifYes X57.here hx rfl (pc0 := 214) (pc' := 245) rfl (hb hby at_214) rfl ((if0 _ _).trans (teq hc214_72).1) (by decide) (by decide) k) ?_
                  show OwnEnds p.tables e below _ (T57.setTop (mkF m 245 #[.val (.int p0), .val (.int p1), .val (.int p2), .val (.int (2 : Int32)), .val (.int r0), .val (.int r1), .val (.int r2), .val (.int r3), .val (.int hg), .val (.int dr), .val (.ref b7), .val (.ref b9), .val (.ref b11), .val (.ref b13), .val (.ref b15), .unset, .unset] []))
                  exact J245_60 _ _ _ (own_wide X57 (by decide) (by decide)) e57 N57 Zs_W57 E_b7 F_left_b7 F_red_b7 E_b9 F_left_b9 F_red_b9 E_b11 F_left_b11 F_red_b11 E_b13 F_left_b13 F_red_b13 E_b15 F_left_b15 F_red_b15
                · skip
                  refine own_via (fun t k => XS.ifNo X57.here hx rfl (hb hby at_214) rfl ((if0 _ _).trans (feq hc214_72).1) k) ?_
                  show OwnEnds p.tables e below _ (T57.setTop (mkF m 217 #[.val (.int p0), .val (.int p1), .val (.int p2), .val (.int (2 : Int32)), .val (.int r0), .val (.int r1), .val (.int r2), .val (.int r3), .val (.int hg), .val (.int dr), .val (.ref b7), .val (.ref b9), .val (.ref b11), .val (.ref b13), .val (.ref b15), .unset, .unset] []))
                  refine own_via (fun t k => XS.aload X57.here hx rfl (hb hby at_217) rfl rfl k) ?_
                  show OwnEnds p.tables e below _ (T57.setTop (mkF m 219 #[.val (.int p0), .val (.int p1), .val (.int p2), .val (.int (2 : Int32)), .val (.int r0), .val (.int r1), .val (.int r2), .val (.int r3), .val (.int hg), .val (.int dr), .val (.ref b7), .val (.ref b9), .val (.ref b11), .val (.ref b13), .val (.ref b15), .unset, .unset] [(.ref b7)]))
                  refine own_via (fun t k => XS.aload X57.here hx rfl (hb hby at_219) rfl rfl k) ?_
                  show OwnEnds p.tables e below _ (T57.setTop (mkF m 221 #[.val (.int p0), .val (.int p1), .val (.int p2), .val (.int (2 : Int32)), .val (.int r0), .val (.int r1), .val (.int r2), .val (.int r3), .val (.int hg), .val (.int dr), .val (.ref b7), .val (.ref b9), .val (.ref b11), .val (.ref b13), .val (.ref b15), .unset, .unset] [(.ref b15), (.ref b7)]))
                  obtain ⟨T73, h73, X73, e73, W73, st73⟩ := putF X57 hx hZ hown (host := "") (Or.inl (hw _ (List.mem_of_getElem? (i := 19) rfl))) Via.refl e57 F_right_b7 E_b7 (Or.inl (hw _ (List.mem_of_getElem? (i := 20) rfl))) (hw _ (List.mem_of_getElem? (i := 1) rfl)) (ty := (.object "com/example/rowan/rowan/Node")) (by decide) rfl rfl (g := (mkF m 221 #[.val (.int p0), .val (.int p1), .val (.int p2), .val (.int (2 : Int32)), .val (.int r0), .val (.int r1), .val (.int r2), .val (.int r3), .val (.int hg), .val (.int dr), .val (.ref b7), .val (.ref b9), .val (.ref b11), .val (.ref b13), .val (.ref b15), .unset, .unset] [(.ref b15), (.ref b7)])) rfl rfl (hb hby at_221)
                  replace E_b7 := E_b7.wr W73
                  replace F_left_b7 := F_left_b7.other W73 (Or.inr (slot_ne (Or.inl (hw _ (List.mem_of_getElem? (i := 22) rfl))) (Or.inl (hw _ (List.mem_of_getElem? (i := 20) rfl))) (by decide) (t := (.object "com/example/rowan/rowan/Node")) (t' := (.object "com/example/rowan/rowan/Node")) (by decide) (by decide)))
                  replace F_right_b7 := F_right_b7.same W73
                  replace F_red_b7 := F_red_b7.other W73 (Or.inr (slot_ne (Or.inl (hw _ (List.mem_of_getElem? (i := 14) rfl))) (Or.inl (hw _ (List.mem_of_getElem? (i := 20) rfl))) (by decide) (t := .boolean) (t' := (.object "com/example/rowan/rowan/Node")) (by decide) (by decide)))
                  replace E_b9 := E_b9.wr W73
                  replace F_left_b9 := F_left_b9.other W73 (Or.inl (Ne.symm ne_b7_b9))
                  replace F_right_b9 := F_right_b9.other W73 (Or.inl (Ne.symm ne_b7_b9))
                  replace F_red_b9 := F_red_b9.other W73 (Or.inl (Ne.symm ne_b7_b9))
                  replace E_b11 := E_b11.wr W73
                  replace F_left_b11 := F_left_b11.other W73 (Or.inl (Ne.symm ne_b7_b11))
                  replace F_right_b11 := F_right_b11.other W73 (Or.inl (Ne.symm ne_b7_b11))
                  replace F_red_b11 := F_red_b11.other W73 (Or.inl (Ne.symm ne_b7_b11))
                  replace E_b13 := E_b13.wr W73
                  replace F_left_b13 := F_left_b13.other W73 (Or.inl (Ne.symm ne_b7_b13))
                  replace F_right_b13 := F_right_b13.other W73 (Or.inl (Ne.symm ne_b7_b13))
                  replace F_red_b13 := F_red_b13.other W73 (Or.inl (Ne.symm ne_b7_b13))
                  replace E_b15 := E_b15.wr W73
                  replace F_left_b15 := F_left_b15.other W73 (Or.inl (Ne.symm ne_b7_b15))
                  replace F_right_b15 := F_right_b15.other W73 (Or.inl (Ne.symm ne_b7_b15))
                  replace F_red_b15 := F_red_b15.other W73 (Or.inl (Ne.symm ne_b7_b15))
                  have Zs_W73 : n0 ≤ _ := Nat.le_trans Zs_W57 (Keep.of_wr W73).1
                  have N73 := Fr.snoc X73 N57 g_b7
                  refine own_via st73 ?_
                  show OwnEnds p.tables e below _ (T73.setTop (mkF m 224 #[.val (.int p0), .val (.int p1), .val (.int p2), .val (.int (2 : Int32)), .val (.int r0), .val (.int r1), .val (.int r2), .val (.int r3), .val (.int hg), .val (.int dr), .val (.ref b7), .val (.ref b9), .val (.ref b11), .val (.ref b13), .val (.ref b15), .unset, .unset] []))
                  refine own_via (fun t k => XS.aload X73.here hx rfl (hb hby at_224) rfl rfl k) ?_
                  show OwnEnds p.tables e below _ (T73.setTop (mkF m 226 #[.val (.int p0), .val (.int p1), .val (.int p2), .val (.int (2 : Int32)), .val (.int r0), .val (.int r1), .val (.int r2), .val (.int r3), .val (.int hg), .val (.int dr), .val (.ref b7), .val (.ref b9), .val (.ref b11), .val (.ref b13), .val (.ref b15), .unset, .unset] [(.ref b9)]))
                  refine own_via (fun t k => XS.aload X73.here hx rfl (hb hby at_226) rfl rfl k) ?_
                  show OwnEnds p.tables e below _ (T73.setTop (mkF m 228 #[.val (.int p0), .val (.int p1), .val (.int p2), .val (.int (2 : Int32)), .val (.int r0), .val (.int r1), .val (.int r2), .val (.int r3), .val (.int hg), .val (.int dr), .val (.ref b7), .val (.ref b9), .val (.ref b11), .val (.ref b13), .val (.ref b15), .unset, .unset] [(.ref b15), (.ref b9)]))
                  obtain ⟨T74, h74, X74, e74, W74, st74⟩ := putF X73 hx hZ hown (host := "") (Or.inl (hw _ (List.mem_of_getElem? (i := 19) rfl))) Via.refl e73 F_right_b9 E_b9 (Or.inl (hw _ (List.mem_of_getElem? (i := 20) rfl))) (hw _ (List.mem_of_getElem? (i := 1) rfl)) (ty := (.object "com/example/rowan/rowan/Node")) (by decide) rfl rfl (g := (mkF m 228 #[.val (.int p0), .val (.int p1), .val (.int p2), .val (.int (2 : Int32)), .val (.int r0), .val (.int r1), .val (.int r2), .val (.int r3), .val (.int hg), .val (.int dr), .val (.ref b7), .val (.ref b9), .val (.ref b11), .val (.ref b13), .val (.ref b15), .unset, .unset] [(.ref b15), (.ref b9)])) rfl rfl (hb hby at_228)
                  replace E_b7 := E_b7.wr W74
                  replace F_left_b7 := F_left_b7.other W74 (Or.inl ne_b7_b9)
                  replace F_right_b7 := F_right_b7.other W74 (Or.inl ne_b7_b9)
                  replace F_red_b7 := F_red_b7.other W74 (Or.inl ne_b7_b9)
                  replace E_b9 := E_b9.wr W74
                  replace F_left_b9 := F_left_b9.other W74 (Or.inr (slot_ne (Or.inl (hw _ (List.mem_of_getElem? (i := 22) rfl))) (Or.inl (hw _ (List.mem_of_getElem? (i := 20) rfl))) (by decide) (t := (.object "com/example/rowan/rowan/Node")) (t' := (.object "com/example/rowan/rowan/Node")) (by decide) (by decide)))
                  replace F_right_b9 := F_right_b9.same W74
                  replace F_red_b9 := F_red_b9.other W74 (Or.inr (slot_ne (Or.inl (hw _ (List.mem_of_getElem? (i := 14) rfl))) (Or.inl (hw _ (List.mem_of_getElem? (i := 20) rfl))) (by decide) (t := .boolean) (t' := (.object "com/example/rowan/rowan/Node")) (by decide) (by decide)))
                  replace E_b11 := E_b11.wr W74
                  replace F_left_b11 := F_left_b11.other W74 (Or.inl (Ne.symm ne_b9_b11))
                  replace F_right_b11 := F_right_b11.other W74 (Or.inl (Ne.symm ne_b9_b11))
                  replace F_red_b11 := F_red_b11.other W74 (Or.inl (Ne.symm ne_b9_b11))
                  replace E_b13 := E_b13.wr W74
                  replace F_left_b13 := F_left_b13.other W74 (Or.inl (Ne.symm ne_b9_b13))
                  replace F_right_b13 := F_right_b13.other W74 (Or.inl (Ne.symm ne_b9_b13))
                  replace F_red_b13 := F_red_b13.other W74 (Or.inl (Ne.symm ne_b9_b13))
                  replace E_b15 := E_b15.wr W74
                  replace F_left_b15 := F_left_b15.other W74 (Or.inl (Ne.symm ne_b9_b15))
                  replace F_right_b15 := F_right_b15.other W74 (Or.inl (Ne.symm ne_b9_b15))
                  replace F_red_b15 := F_red_b15.other W74 (Or.inl (Ne.symm ne_b9_b15))
                  have Zs_W74 : n0 ≤ _ := Nat.le_trans Zs_W73 (Keep.of_wr W74).1
                  have N74 := Fr.snoc X74 N73 g_b9
                  refine own_via st74 ?_
                  show OwnEnds p.tables e below _ (T74.setTop (mkF m 231 #[.val (.int p0), .val (.int p1), .val (.int p2), .val (.int (2 : Int32)), .val (.int r0), .val (.int r1), .val (.int r2), .val (.int r3), .val (.int hg), .val (.int dr), .val (.ref b7), .val (.ref b9), .val (.ref b11), .val (.ref b13), .val (.ref b15), .unset, .unset] []))
                  refine own_via (fun t k => XS.aload X74.here hx rfl (hb hby at_231) rfl rfl k) ?_
                  show OwnEnds p.tables e below _ (T74.setTop (mkF m 233 #[.val (.int p0), .val (.int p1), .val (.int p2), .val (.int (2 : Int32)), .val (.int r0), .val (.int r1), .val (.int r2), .val (.int r3), .val (.int hg), .val (.int dr), .val (.ref b7), .val (.ref b9), .val (.ref b11), .val (.ref b13), .val (.ref b15), .unset, .unset] [(.ref b11)]))
                  refine own_via (fun t k => XS.aload X74.here hx rfl (hb hby at_233) rfl rfl k) ?_
                  show OwnEnds p.tables e below _ (T74.setTop (mkF m 235 #[.val (.int p0), .val (.int p1), .val (.int p2), .val (.int (2 : Int32)), .val (.int r0), .val (.int r1), .val (.int r2), .val (.int r3), .val (.int hg), .val (.int dr), .val (.ref b7), .val (.ref b9), .val (.ref b11), .val (.ref b13), .val (.ref b15), .unset, .unset] [(.ref b15), (.ref b11)]))
                  obtain ⟨T75, h75, X75, e75, W75, st75⟩ := putF X74 hx hZ hown (host := "") (Or.inl (hw _ (List.mem_of_getElem? (i := 19) rfl))) Via.refl e74 F_right_b11 E_b11 (Or.inl (hw _ (List.mem_of_getElem? (i := 20) rfl))) (hw _ (List.mem_of_getElem? (i := 1) rfl)) (ty := (.object "com/example/rowan/rowan/Node")) (by decide) rfl rfl (g := (mkF m 235 #[.val (.int p0), .val (.int p1), .val (.int p2), .val (.int (2 : Int32)), .val (.int r0), .val (.int r1), .val (.int r2), .val (.int r3), .val (.int hg), .val (.int dr), .val (.ref b7), .val (.ref b9), .val (.ref b11), .val (.ref b13), .val (.ref b15), .unset, .unset] [(.ref b15), (.ref b11)])) rfl rfl (hb hby at_235)
                  replace E_b7 := E_b7.wr W75
                  replace F_left_b7 := F_left_b7.other W75 (Or.inl ne_b7_b11)
                  replace F_right_b7 := F_right_b7.other W75 (Or.inl ne_b7_b11)
                  replace F_red_b7 := F_red_b7.other W75 (Or.inl ne_b7_b11)
                  replace E_b9 := E_b9.wr W75
                  replace F_left_b9 := F_left_b9.other W75 (Or.inl ne_b9_b11)
                  replace F_right_b9 := F_right_b9.other W75 (Or.inl ne_b9_b11)
                  replace F_red_b9 := F_red_b9.other W75 (Or.inl ne_b9_b11)
                  replace E_b11 := E_b11.wr W75
                  replace F_left_b11 := F_left_b11.other W75 (Or.inr (slot_ne (Or.inl (hw _ (List.mem_of_getElem? (i := 22) rfl))) (Or.inl (hw _ (List.mem_of_getElem? (i := 20) rfl))) (by decide) (t := (.object "com/example/rowan/rowan/Node")) (t' := (.object "com/example/rowan/rowan/Node")) (by decide) (by decide)))
                  replace F_right_b11 := F_right_b11.same W75
                  replace F_red_b11 := F_red_b11.other W75 (Or.inr (slot_ne (Or.inl (hw _ (List.mem_of_getElem? (i := 14) rfl))) (Or.inl (hw _ (List.mem_of_getElem? (i := 20) rfl))) (by decide) (t := .boolean) (t' := (.object "com/example/rowan/rowan/Node")) (by decide) (by decide)))
                  replace E_b13 := E_b13.wr W75
                  replace F_left_b13 := F_left_b13.other W75 (Or.inl (Ne.symm ne_b11_b13))
                  replace F_right_b13 := F_right_b13.other W75 (Or.inl (Ne.symm ne_b11_b13))
                  replace F_red_b13 := F_red_b13.other W75 (Or.inl (Ne.symm ne_b11_b13))
                  replace E_b15 := E_b15.wr W75
                  replace F_left_b15 := F_left_b15.other W75 (Or.inl (Ne.symm ne_b11_b15))
                  replace F_right_b15 := F_right_b15.other W75 (Or.inl (Ne.symm ne_b11_b15))
                  replace F_red_b15 := F_red_b15.other W75 (Or.inl (Ne.symm ne_b11_b15))
                  have Zs_W75 : n0 ≤ _ := Nat.le_trans Zs_W74 (Keep.of_wr W75).1
                  have N75 := Fr.snoc X75 N74 g_b11
                  refine own_via st75 ?_
                  show OwnEnds p.tables e below _ (T75.setTop (mkF m 238 #[.val (.int p0), .val (.int p1), .val (.int p2), .val (.int (2 : Int32)), .val (.int r0), .val (.int r1), .val (.int r2), .val (.int r3), .val (.int hg), .val (.int dr), .val (.ref b7), .val (.ref b9), .val (.ref b11), .val (.ref b13), .val (.ref b15), .unset, .unset] []))
                  refine own_via (fun t k => XS.aload X75.here hx rfl (hb hby at_238) rfl rfl k) ?_
                  show OwnEnds p.tables e below _ (T75.setTop (mkF m 240 #[.val (.int p0), .val (.int p1), .val (.int p2), .val (.int (2 : Int32)), .val (.int r0), .val (.int r1), .val (.int r2), .val (.int r3), .val (.int hg), .val (.int dr), .val (.ref b7), .val (.ref b9), .val (.ref b11), .val (.ref b13), .val (.ref b15), .unset, .unset] [(.ref b13)]))
                  refine own_via (fun t k => XS.aload X75.here hx rfl (hb hby at_240) rfl rfl k) ?_
                  show OwnEnds p.tables e below _ (T75.setTop (mkF m 242 #[.val (.int p0), .val (.int p1), .val (.int p2), .val (.int (2 : Int32)), .val (.int r0), .val (.int r1), .val (.int r2), .val (.int r3), .val (.int hg), .val (.int dr), .val (.ref b7), .val (.ref b9), .val (.ref b11), .val (.ref b13), .val (.ref b15), .unset, .unset] [(.ref b15), (.ref b13)]))
                  obtain ⟨T76, h76, X76, e76, W76, st76⟩ := putF X75 hx hZ hown (host := "") (Or.inl (hw _ (List.mem_of_getElem? (i := 19) rfl))) Via.refl e75 F_right_b13 E_b13 (Or.inl (hw _ (List.mem_of_getElem? (i := 20) rfl))) (hw _ (List.mem_of_getElem? (i := 1) rfl)) (ty := (.object "com/example/rowan/rowan/Node")) (by decide) rfl rfl (g := (mkF m 242 #[.val (.int p0), .val (.int p1), .val (.int p2), .val (.int (2 : Int32)), .val (.int r0), .val (.int r1), .val (.int r2), .val (.int r3), .val (.int hg), .val (.int dr), .val (.ref b7), .val (.ref b9), .val (.ref b11), .val (.ref b13), .val (.ref b15), .unset, .unset] [(.ref b15), (.ref b13)])) rfl rfl (hb hby at_242)
                  replace E_b7 := E_b7.wr W76
                  replace F_left_b7 := F_left_b7.other W76 (Or.inl ne_b7_b13)
                  replace F_right_b7 := F_right_b7.other W76 (Or.inl ne_b7_b13)
                  replace F_red_b7 := F_red_b7.other W76 (Or.inl ne_b7_b13)
                  replace E_b9 := E_b9.wr W76
                  replace F_left_b9 := F_left_b9.other W76 (Or.inl ne_b9_b13)
                  replace F_right_b9 := F_right_b9.other W76 (Or.inl ne_b9_b13)
                  replace F_red_b9 := F_red_b9.other W76 (Or.inl ne_b9_b13)
                  replace E_b11 := E_b11.wr W76
                  replace F_left_b11 := F_left_b11.other W76 (Or.inl ne_b11_b13)
                  replace F_right_b11 := F_right_b11.other W76 (Or.inl ne_b11_b13)
                  replace F_red_b11 := F_red_b11.other W76 (Or.inl ne_b11_b13)
                  replace E_b13 := E_b13.wr W76
                  replace F_left_b13 := F_left_b13.other W76 (Or.inr (slot_ne (Or.inl (hw _ (List.mem_of_getElem? (i := 22) rfl))) (Or.inl (hw _ (List.mem_of_getElem? (i := 20) rfl))) (by decide) (t := (.object "com/example/rowan/rowan/Node")) (t' := (.object "com/example/rowan/rowan/Node")) (by decide) (by decide)))
                  replace F_right_b13 := F_right_b13.same W76
                  replace F_red_b13 := F_red_b13.other W76 (Or.inr (slot_ne (Or.inl (hw _ (List.mem_of_getElem? (i := 14) rfl))) (Or.inl (hw _ (List.mem_of_getElem? (i := 20) rfl))) (by decide) (t := .boolean) (t' := (.object "com/example/rowan/rowan/Node")) (by decide) (by decide)))
                  replace E_b15 := E_b15.wr W76
                  replace F_left_b15 := F_left_b15.other W76 (Or.inl (Ne.symm ne_b13_b15))
                  replace F_right_b15 := F_right_b15.other W76 (Or.inl (Ne.symm ne_b13_b15))
                  replace F_red_b15 := F_red_b15.other W76 (Or.inl (Ne.symm ne_b13_b15))
                  have Zs_W76 : n0 ≤ _ := Nat.le_trans Zs_W75 (Keep.of_wr W76).1
                  have N76 := Fr.snoc X76 N75 g_b13
                  refine own_via st76 ?_
                  show OwnEnds p.tables e below _ (T76.setTop (mkF m 245 #[.val (.int p0), .val (.int p1), .val (.int p2), .val (.int (2 : Int32)), .val (.int r0), .val (.int r1), .val (.int r2), .val (.int r3), .val (.int hg), .val (.int dr), .val (.ref b7), .val (.ref b9), .val (.ref b11), .val (.ref b13), .val (.ref b15), .unset, .unset] []))
                  exact J245_60 _ _ _ (own_wide X76 (by decide) (by decide)) e76 N76 Zs_W76 E_b7 F_left_b7 F_red_b7 E_b9 F_left_b9 F_red_b9 E_b11 F_left_b11 F_red_b11 E_b13 F_left_b13 F_red_b13 E_b15 F_left_b15 F_red_b15
              · skip
                subst q
                show OwnEnds p.tables e below _ (T21.setTop (mkF m 176 #[.val (.int p0), .val (.int p1), .val (.int p2), .val (.int (3 : Int32)), .val (.int r0), .val (.int r1), .val (.int r2), .val (.int r3), .val (.int hg), .val (.int dr), .val (.ref b7), .val (.ref b9), .val (.ref b11), .val (.ref b13), .val (.ref b15), .unset, .unset] []))
                refine own_via (fun t k => XS.iloadN X21.here hx rfl (hb hby at_176) rfl k) ?_
                show OwnEnds p.tables e below _ (T21.setTop (mkF m 177 #[.val (.int p0), .val (.int p1), .val (.int p2), .val (.int (3 : Int32)), .val (.int r0), .val (.int r1), .val (.int r2), .val (.int r3), .val (.int hg), .val (.int dr), .val (.ref b7), .val (.ref b9), .val (.ref b11), .val (.ref b13), .val (.ref b15), .unset, .unset] [(.int (3 : Int32))]))
                refine own_via (fun t k => XS.iconst X21.here hx rfl (hb hby at_177) k) ?_
                show OwnEnds p.tables e below _ (T21.setTop (mkF m 178 #[.val (.int p0), .val (.int p1), .val (.int p2), .val (.int (3 : Int32)), .val (.int r0), .val (.int r1), .val (.int r2), .val (.int r3), .val (.int hg), .val (.int dr), .val (.ref b7), .val (.ref b9), .val (.ref b11), .val (.ref b13), .val (.ref b15), .unset, .unset] [(.int (2 : Int32)), (.int (3 : Int32))]))
                have hc178_77 : ¬ ((3 : Int32) < (2 : Int32)) := by decide
                refine own_via (fun t k => XS.icmpNo X21.here hx rfl (hb hby at_178) rfl (flt hc178_77).1 k) ?_
                show OwnEnds p.tables e below _ (T21.setTop (mkF m 181 #[.val (.int p0), .val (.int p1), .val (.int p2), .val (.int (3 : Int32)), .val (.int r0), .val (.int r1), .val (.int r2), .val (.int r3), .val (.int hg), .val (.int dr), .val (.ref b7), .val (.ref b9), .val (.ref b11), .val (.ref b13), .val (.ref b15), .unset, .unset] []))
                refine own_via (fun t k => XS.aload X21.here hx rfl (hb hby at_181) rfl rfl k) ?_
                show OwnEnds p.tables e below _ (T21.setTop (mkF m 183 #[.val (.int p0), .val (.int p1), .val (.int p2), .val (.int (3 : Int32)), .val (.int r0), .val (.int r1), .val (.int r2), .val (.int r3), .val (.int hg), .val (.int dr), .val (.ref b7), .val (.ref b9), .val (.ref b11), .val (.ref b13), .val (.ref b15), .unset, .unset] [(.ref b7)]))
                refine own_via (fun t k => XS.aload X21.here hx rfl (hb hby at_183) rfl rfl k) ?_
                show OwnEnds p.tables e below _ (T21.setTop (mkF m 185 #[.val (.int p0), .val (.int p1), .val (.int p2), .val (.int (3 : Int32)), .val (.int r0), .val (.int r1), .val (.int r2), .val (.int r3), .val (.int hg), .val (.int dr), .val (.ref b7), .val (.ref b9), .val (.ref b11), .val (.ref b13), .val (.ref b15), .unset, .unset] [(.ref b9), (.ref b7)]))
                obtain ⟨T78, h78, X78, e78, W78, st78⟩ := putF X21 hx hZ hown (host := "") (Or.inl (hw _ (List.mem_of_getElem? (i := 23) rfl))) Via.refl e21 F_left_b7 E_b7 (Or.inl (hw _ (List.mem_of_getElem? (i := 22) rfl))) (hw _ (List.mem_of_getElem? (i := 1) rfl)) (ty := (.object "com/example/rowan/rowan/Node")) (by decide) rfl rfl (g := (mkF m 185 #[.val (.int p0), .val (.int p1), .val (.int p2), .val (.int (3 : Int32)), .val (.int r0), .val (.int r1), .val (.int r2), .val (.int r3), .val (.int hg), .val (.int dr), .val (.ref b7), .val (.ref b9), .val (.ref b11), .val (.ref b13), .val (.ref b15), .unset, .unset] [(.ref b9), (.ref b7)])) rfl rfl (hb hby at_185)
                replace E_b7 := E_b7.wr W78
                replace F_left_b7 := F_left_b7.same W78
                replace F_right_b7 := F_right_b7.other W78 (Or.inr (slot_ne (Or.inl (hw _ (List.mem_of_getElem? (i := 20) rfl))) (Or.inl (hw _ (List.mem_of_getElem? (i := 22) rfl))) (by decide) (t := (.object "com/example/rowan/rowan/Node")) (t' := (.object "com/example/rowan/rowan/Node")) (by decide) (by decide)))
                replace F_red_b7 := F_red_b7.other W78 (Or.inr (slot_ne (Or.inl (hw _ (List.mem_of_getElem? (i := 14) rfl))) (Or.inl (hw _ (List.mem_of_getElem? (i := 22) rfl))) (by decide) (t := .boolean) (t' := (.object "com/example/rowan/rowan/Node")) (by decide) (by decide)))
                replace E_b9 := E_b9.wr W78
                replace F_left_b9 := F_left_b9.other W78 (Or.inl (Ne.symm ne_b7_b9))
                replace F_right_b9 := F_right_b9.other W78 (Or.inl (Ne.symm ne_b7_b9))
                replace F_red_b9 := F_red_b9.other W78 (Or.inl (Ne.symm ne_b7_b9))
                replace E_b11 := E_b11.wr W78
                replace F_left_b11 := F_left_b11.other W78 (Or.inl (Ne.symm ne_b7_b11))
                replace F_right_b11 := F_right_b11.other W78 (Or.inl (Ne.symm ne_b7_b11))
                replace F_red_b11 := F_red_b11.other W78 (Or.inl (Ne.symm ne_b7_b11))
                replace E_b13 := E_b13.wr W78
                replace F_left_b13 := F_left_b13.other W78 (Or.inl (Ne.symm ne_b7_b13))
                replace F_right_b13 := F_right_b13.other W78 (Or.inl (Ne.symm ne_b7_b13))
                replace F_red_b13 := F_red_b13.other W78 (Or.inl (Ne.symm ne_b7_b13))
                replace E_b15 := E_b15.wr W78
                replace F_left_b15 := F_left_b15.other W78 (Or.inl (Ne.symm ne_b7_b15))
                replace F_right_b15 := F_right_b15.other W78 (Or.inl (Ne.symm ne_b7_b15))
                replace F_red_b15 := F_red_b15.other W78 (Or.inl (Ne.symm ne_b7_b15))
                have Zs_W78 : n0 ≤ _ := Nat.le_trans Zs_W21 (Keep.of_wr W78).1
                have N78 := Fr.snoc X78 N21 g_b7
                refine own_via st78 ?_
                show OwnEnds p.tables e below _ (T78.setTop (mkF m 188 #[.val (.int p0), .val (.int p1), .val (.int p2), .val (.int (3 : Int32)), .val (.int r0), .val (.int r1), .val (.int r2), .val (.int r3), .val (.int hg), .val (.int dr), .val (.ref b7), .val (.ref b9), .val (.ref b11), .val (.ref b13), .val (.ref b15), .unset, .unset] []))
                refine own_via (fun t k => XS.iloadN X78.here hx rfl (hb hby at_188) rfl k) ?_
                show OwnEnds p.tables e below _ (T78.setTop (mkF m 189 #[.val (.int p0), .val (.int p1), .val (.int p2), .val (.int (3 : Int32)), .val (.int r0), .val (.int r1), .val (.int r2), .val (.int r3), .val (.int hg), .val (.int dr), .val (.ref b7), .val (.ref b9), .val (.ref b11), .val (.ref b13), .val (.ref b15), .unset, .unset] [(.int (3 : Int32))]))
                refine own_via (fun t k => XS.iconst X78.here hx rfl (hb hby at_189) k) ?_
                show OwnEnds p.tables e below _ (T78.setTop (mkF m 190 #[.val (.int p0), .val (.int p1), .val (.int p2), .val (.int (3 : Int32)), .val (.int r0), .val (.int r1), .val (.int r2), .val (.int r3), .val (.int hg), .val (.int dr), .val (.ref b7), .val (.ref b9), .val (.ref b11), .val (.ref b13), .val (.ref b15), .unset, .unset] [(.int (3 : Int32)), (.int (3 : Int32))]))
                have hc190_79 : ¬ ((3 : Int32) < (3 : Int32)) := by decide
                refine own_via (fun t k => XS.icmpNo X78.here hx rfl (hb hby at_190) rfl (flt hc190_79).1 k) ?_
                show OwnEnds p.tables e below _ (T78.setTop (mkF m 193 #[.val (.int p0), .val (.int p1), .val (.int p2), .val (.int (3 : Int32)), .val (.int r0), .val (.int r1), .val (.int r2), .val (.int r3), .val (.int hg), .val (.int dr), .val (.ref b7), .val (.ref b9), .val (.ref b11), .val (.ref b13), .val (.ref b15), .unset, .unset] []))
                refine own_via (fun t k => XS.aload X78.here hx rfl (hb hby at_193) rfl rfl k) ?_
                show OwnEnds p.tables e below _ (T78.setTop (mkF m 195 #[.val (.int p0), .val (.int p1), .val (.int p2), .val (.int (3 : Int32)), .val (.int r0), .val (.int r1), .val (.int r2), .val (.int r3), .val (.int hg), .val (.int dr), .val (.ref b7), .val (.ref b9), .val (.ref b11), .val (.ref b13), .val (.ref b15), .unset, .unset] [(.ref b9)]))
                refine own_via (fun t k => XS.aload X78.here hx rfl (hb hby at_195) rfl rfl k) ?_
                show OwnEnds p.tables e below _ (T78.setTop (mkF m 197 #[.val (.int p0), .val (.int p1), .val (.int p2), .val (.int (3 : Int32)), .val (.int r0), .val (.int r1), .val (.int r2), .val (.int r3), .val (.int hg), .val (.int dr), .val (.ref b7), .val (.ref b9), .val (.ref b11), .val (.ref b13), .val (.ref b15), .unset, .unset] [(.ref b11), (.ref b9)]))
                obtain ⟨T80, h80, X80, e80, W80, st80⟩ := putF X78 hx hZ hown (host := "") (Or.inl (hw _ (List.mem_of_getElem? (i := 23) rfl))) Via.refl e78 F_left_b9 E_b9 (Or.inl (hw _ (List.mem_of_getElem? (i := 22) rfl))) (hw _ (List.mem_of_getElem? (i := 1) rfl)) (ty := (.object "com/example/rowan/rowan/Node")) (by decide) rfl rfl (g := (mkF m 197 #[.val (.int p0), .val (.int p1), .val (.int p2), .val (.int (3 : Int32)), .val (.int r0), .val (.int r1), .val (.int r2), .val (.int r3), .val (.int hg), .val (.int dr), .val (.ref b7), .val (.ref b9), .val (.ref b11), .val (.ref b13), .val (.ref b15), .unset, .unset] [(.ref b11), (.ref b9)])) rfl rfl (hb hby at_197)
                replace E_b7 := E_b7.wr W80
                replace F_left_b7 := F_left_b7.other W80 (Or.inl ne_b7_b9)
                replace F_right_b7 := F_right_b7.other W80 (Or.inl ne_b7_b9)
                replace F_red_b7 := F_red_b7.other W80 (Or.inl ne_b7_b9)
                replace E_b9 := E_b9.wr W80
                replace F_left_b9 := F_left_b9.same W80
                replace F_right_b9 := F_right_b9.other W80 (Or.inr (slot_ne (Or.inl (hw _ (List.mem_of_getElem? (i := 20) rfl))) (Or.inl (hw _ (List.mem_of_getElem? (i := 22) rfl))) (by decide) (t := (.object "com/example/rowan/rowan/Node")) (t' := (.object "com/example/rowan/rowan/Node")) (by decide) (by decide)))
                replace F_red_b9 := F_red_b9.other W80 (Or.inr (slot_ne (Or.inl (hw _ (List.mem_of_getElem? (i := 14) rfl))) (Or.inl (hw _ (List.mem_of_getElem? (i := 22) rfl))) (by decide) (t := .boolean) (t' := (.object "com/example/rowan/rowan/Node")) (by decide) (by decide)))
                replace E_b11 := E_b11.wr W80
                replace F_left_b11 := F_left_b11.other W80 (Or.inl (Ne.symm ne_b9_b11))
                replace F_right_b11 := F_right_b11.other W80 (Or.inl (Ne.symm ne_b9_b11))
                replace F_red_b11 := F_red_b11.other W80 (Or.inl (Ne.symm ne_b9_b11))
                replace E_b13 := E_b13.wr W80
                replace F_left_b13 := F_left_b13.other W80 (Or.inl (Ne.symm ne_b9_b13))
                replace F_right_b13 := F_right_b13.other W80 (Or.inl (Ne.symm ne_b9_b13))
                replace F_red_b13 := F_red_b13.other W80 (Or.inl (Ne.symm ne_b9_b13))
                replace E_b15 := E_b15.wr W80
                replace F_left_b15 := F_left_b15.other W80 (Or.inl (Ne.symm ne_b9_b15))
                replace F_right_b15 := F_right_b15.other W80 (Or.inl (Ne.symm ne_b9_b15))
                replace F_red_b15 := F_red_b15.other W80 (Or.inl (Ne.symm ne_b9_b15))
                have Zs_W80 : n0 ≤ _ := Nat.le_trans Zs_W78 (Keep.of_wr W80).1
                have N80 := Fr.snoc X80 N78 g_b9
                refine own_via st80 ?_
                show OwnEnds p.tables e below _ (T80.setTop (mkF m 200 #[.val (.int p0), .val (.int p1), .val (.int p2), .val (.int (3 : Int32)), .val (.int r0), .val (.int r1), .val (.int r2), .val (.int r3), .val (.int hg), .val (.int dr), .val (.ref b7), .val (.ref b9), .val (.ref b11), .val (.ref b13), .val (.ref b15), .unset, .unset] []))
                refine own_via (fun t k => XS.iloadN X80.here hx rfl (hb hby at_200) rfl k) ?_
                show OwnEnds p.tables e below _ (T80.setTop (mkF m 201 #[.val (.int p0), .val (.int p1), .val (.int p2), .val (.int (3 : Int32)), .val (.int r0), .val (.int r1), .val (.int r2), .val (.int r3), .val (.int hg), .val (.int dr), .val (.ref b7), .val (.ref b9), .val (.ref b11), .val (.ref b13), .val (.ref b15), .unset, .unset] [(.int (3 : Int32))]))
                refine own_via (fun t k => XS.iconst X80.here hx rfl (hb hby at_201) k) ?_
                show OwnEnds p.tables e below _ (T80.setTop (mkF m 202 #[.val (.int p0), .val (.int p1), .val (.int p2), .val (.int (3 : Int32)), .val (.int r0), .val (.int r1), .val (.int r2), .val (.int r3), .val (.int hg), .val (.int dr), .val (.ref b7), .val (.ref b9), .val (.ref b11), .val (.ref b13), .val (.ref b15), .unset, .unset] [(.int (4 : Int32)), (.int (3 : Int32))]))
                have hc202_81 : (3 : Int32) < (4 : Int32) := by decide
                refine own_via (fun t k => XS.icmpYes X80.here hx rfl (pc0 := 202) (pc' := 212) rfl (hb hby at_202) rfl (tlt hc202_81).1 (by decide) (by decide) k) ?_
                show OwnEnds p.tables e below _ (T80.setTop (mkF m 212 #[.val (.int p0), .val (.int p1), .val (.int p2), .val (.int (3 : Int32)), .val (.int r0), .val (.int r1), .val (.int r2), .val (.int r3), .val (.int hg), .val (.int dr), .val (.ref b7), .val (.ref b9), .val (.ref b11), .val (.ref b13), .val (.ref b15), .unset, .unset] []))
                refine own_via (fun t k => XS.iload X80.here hx rfl (hb hby at_212) rfl k) ?_
                show OwnEnds p.tables e below _ (T80.setTop (mkF m 214 #[.val (.int p0), .val (.int p1), .val (.int p2), .val (.int (3 : Int32)), .val (.int r0), .val (.int r1), .val (.int r2), .val (.int r3), .val (.int hg), .val (.int dr), .val (.ref b7), .val (.ref b9), .val (.ref b11), .val (.ref b13), .val (.ref b15), .unset, .unset] [(.int hg)]))
                have J245_82 : ∀ (TJ245_82 : State) (hJ245_82 : Heap) (locsJ245_82 : List Loc), Stand p l e room_1 s m #[(.int p0), (.int p1), (.int p2)] below meth c TJ245_82 locsJ245_82 5 35 → TJ245_82.heap = hJ245_82 → Fr n0 locsJ245_82 → n0 ≤ hJ245_82.size → Exa Z hJ245_82 b7 "com/example/rowan/rowan/Node" → Fld Z hJ245_82 b7 "com/example/rowan/rowan/Node" "left" "Lcom/example/rowan/rowan/Node;" (.ref b9) → Fld Z hJ245_82 b7 "com/example/rowan/rowan/Node" "red" "Z" (.int r0) → Exa Z hJ245_82 b9 "com/example/rowan/rowan/Node" → Fld Z hJ245_82 b9 "com/example/rowan/rowan/Node" "left" "Lcom/example/rowan/rowan/Node;" (.ref b11) → Fld Z hJ245_82 b9 "com/example/rowan/rowan/Node" "red" "Z" (.int r1) → Exa Z hJ245_82 b11 "com/example/rowan/rowan/Node" → Fld Z hJ245_82 b11 "com/example/rowan/rowan/Node" "left" "Lcom/example/rowan/rowan/Node;" .null → Fld Z hJ245_82 b11 "com/example/rowan/rowan/Node" "red" "Z" (.int r2) → Exa Z hJ245_82 b13 "com/example/rowan/rowan/Node" → Fld Z hJ245_82 b13 "com/example/rowan/rowan/Node" "left" "Lcom/example/rowan/rowan/Node;" .null → Fld Z hJ245_82 b13 "com/example/rowan/rowan/Node" "red" "Z" (.int r3) → Exa Z hJ245_82 b15 "com/example/rowan/rowan/Node" → Fld Z hJ245_82 b15 "com/example/rowan/rowan/Node" "left" "Lcom/example/rowan/rowan/Node;" .null → Fld Z hJ245_82 b15 "com/example/rowan/rowan/Node" "red" "Z" (.int dr) → OwnEnds p.tables e below (OwnQ s 24 192 (Q0 Z p0 p1 p2 h0 n0)) (TJ245_82.setTop (mkF m 245 #[.val (.int p0), .val (.int p1), .val (.int p2), .val (.int (3 : Int32)), .val (.int r0), .val (.int r1), .val (.int r2), .val (.int r3), .val (.int hg), .val (.int dr), .val (.ref b7), .val (.ref b9), .val (.ref b11), .val (.ref b13), .val (.ref b15), .unset, .unset] [])) := by
                  intro TJ245_82 hJ245_82 locsJ245_82 XJ245_82 eJ245_82 NJ245_82 ZsJ245_82 E_b7 F_left_b7 F_red_b7 E_b9 F_left_b9 F_red_b9 E_b11 F_left_b11 F_red_b11 E_b13 F_left_b13 F_red_b13 E_b15 F_left_b15 F_red_b15
                  refine own_via (fun t k => XS.iloadN XJ245_82.here hx rfl (hb hby at_245) rfl k) ?_
                  show OwnEnds p.tables e below _ (TJ245_82.setTop (mkF m 246 #[.val (.int p0), .val (.int p1), .val (.int p2), .val (.int (3 : Int32)), .val (.int r0), .val (.int r1), .val (.int r2), .val (.int r3), .val (.int hg), .val (.int dr), .val (.ref b7), .val (.ref b9), .val (.ref b11), .val (.ref b13), .val (.ref b15), .unset, .unset] [(.int (3 : Int32))]))
                  have hc246_83 : ¬ ((3 : Int32) = (0 : Int32)) := by decide
                  refine own_via (fun t k => XS.ifYes XJ245_82.here hx rfl (pc0 := 246) (pc' := 253) rfl (hb hby at_246) rfl ((if0 _ _).trans (feq hc246_83).2) (by decide) (by decide) k) ?_
                  show OwnEnds p.tables e below _ (TJ245_82.setTop (mkF m 253 #[.val (.int p0), .val (.int p1), .val (.int p2), .val (.int (3 : Int32)), .val (.int r0), .val (.int r1), .val (.int r2), .val (.int r3), .val (.int hg), .val (.int dr), .val (.ref b7), .val (.ref b9), .val (.ref b11), .val (.ref b13), .val (.ref b15), .unset, .unset] []))
                  refine own_via (fun t k => XS.aload XJ245_82.here hx rfl (hb hby at_253) rfl rfl k) ?_
                  show OwnEnds p.tables e below _ (TJ245_82.setTop (mkF m 255 #[.val (.int p0), .val (.int p1), .val (.int p2), .val (.int (3 : Int32)), .val (.int r0), .val (.int r1), .val (.int r2), .val (.int r3), .val (.int hg), .val (.int dr), .val (.ref b7), .val (.ref b9), .val (.ref b11), .val (.ref b13), .val (.ref b15), .unset, .unset] [(.ref b7)]))
                  refine own_via (fun t k => XS.astore XJ245_82.here hx rfl (hb hby at_255) rfl rfl (l' := #[.val (.int p0), .val (.int p1), .val (.int p2), .val (.int (3 : Int32)), .val (.int r0), .val (.int r1), .val (.int r2), .val (.int r3), .val (.int hg), .val (.int dr), .val (.ref b7), .val (.ref b9), .val (.ref b11), .val (.ref b13), .val (.ref b15), .val (.ref b7), .unset]) rfl k) ?_
                  show OwnEnds p.tables e below _ (TJ245_82.setTop (mkF m 257 #[.val (.int p0), .val (.int p1), .val (.int p2), .val (.int (3 : Int32)), .val (.int r0), .val (.int r1), .val (.int r2), .val (.int r3), .val (.int hg), .val (.int dr), .val (.ref b7), .val (.ref b9), .val (.ref b11), .val (.ref b13), .val (.ref b15), .val (.ref b7), .unset] []))
                  refine own_via (fun t k => XS.iconst XJ245_82.here hx rfl (hb hby at_257) k) ?_
                  show OwnEnds p.tables e below _ (TJ245_82.setTop (mkF m 258 #[.val (.int p0), .val (.int p1), .val (.int p2), .val (.int (3 : Int32)), .val (.int r0), .val (.int r1), .val (.int r2), .val (.int r3), .val (.int hg), .val (.int dr), .val (.ref b7), .val (.ref b9), .val (.ref b11), .val (.ref b13), .val (.ref b15), .val (.ref b7), .unset] [(.int (0 : Int32))]))
                  refine own_via (fun t k => XS.istore XJ245_82.here hx rfl (hb hby at_258) rfl (l' := #[.val (.int p0), .val (.int p1), .val (.int p2), .val (.int (3 : Int32)), .val (.int r0), .val (.int r1), .val (.int r2), .val (.int r3), .val (.int hg), .val (.int dr), .val (.ref b7), .val (.ref b9), .val (.ref b11), .val (.ref b13), .val (.ref b15), .val (.ref b7), .val (.int (0 : Int32))]) rfl k) ?_
                  show OwnEnds p.tables e below _ (TJ245_82.setTop (mkF m 260 #[.val (.int p0), .val (.int p1), .val (.int p2), .val (.int (3 : Int32)), .val (.int r0), .val (.int r1), .val (.int r2), .val (.int r3), .val (.int hg), .val (.int dr), .val (.ref b7), .val (.ref b9), .val (.ref b11), .val (.ref b13), .val (.ref b15), .val (.ref b7), .val (.int (0 : Int32))] []))
                  refine own_via (fun t k => XS.iloadN XJ245_82.here hx rfl (hb hby at_260) rfl k) ?_
                  show OwnEnds p.tables e below _ (TJ245_82.setTop (mkF m 261 #[.val (.int p0), .val (.int p1), .val (.int p2), .val (.int (3 : Int32)), .val (.int r0), .val (.int r1), .val (.int r2), .val (.int r3), .val (.int hg), .val (.int dr), .val (.ref b7), .val (.ref b9), .val (.ref b11), .val (.ref b13), .val (.ref b15), .val (.ref b7), .val (.int (0 : Int32))] [(.int (3 : Int32))]))
                  refine own_via (fun t k => XS.iconst XJ245_82.here hx rfl (hb hby at_261) k) ?_
                  show OwnEnds p.tables e below _ (TJ245_82.setTop (mkF m 262 #[.val (.int p0), .val (.int p1), .val (.int p2), .val (.int (3 : Int32)), .val (.int r0), .val (.int r1), .val (.int r2), .val (.int r3), .val (.int hg), .val (.int dr), .val (.ref b7), .val (.ref b9), .val (.ref b11), .val (.ref b13), .val (.ref b15), .val (.ref b7), .val (.int (0 : Int32))] [(.int (1 : Int32)), (.int (3 : Int32))]))
                  have hc262_84 : ¬ ((3 : Int32) < (1 : Int32)) := by decide
                  refine own_via (fun t k => XS.icmpNo XJ245_82.here hx rfl (hb hby at_262) rfl (flt hc262_84).1 k) ?_
                  show OwnEnds p.tables e below _ (TJ245_82.setTop (mkF m 265 #[.val (.int p0), .val (.int p1), .val (.int p2), .val (.int (3 : Int32)), .val (.int r0), .val (.int r1), .val (.int r2), .val (.int r3), .val (.int hg), .val (.int dr), .val (.ref b7), .val (.ref b9), .val (.ref b11), .val (.ref b13), .val (.ref b15), .val (.ref b7), .val (.int (0 : Int32))] []))
                  refine own_via (fun t k => XS.iload XJ245_82.here hx rfl (hb hby at_265) rfl k) ?_
                  show OwnEnds p.tables e below _ (TJ245_82.setTop (mkF m 267 #[.val (.int p0), .val (.int p1), .val (.int p2), .val (.int (3 : Int32)), .val (.int r0), .val (.int r1), .val (.int r2), .val (.int r3), .val (.int hg), .val (.int dr), .val (.ref b7), .val (.ref b9), .val (.ref b11), .val (.ref b13), .val (.ref b15), .val (.ref b7), .val (.int (0 : Int32))] [(.int r0)]))
                  have J273_85 : ∀ ev1 : Int32, ev1 = (if r0 = (0 : Int32) then (1 : Int32) else (0 : Int32)) → OwnEnds p.tables e below (OwnQ s 24 192 (Q0 Z p0 p1 p2 h0 n0)) (TJ245_82.setTop (mkF m 273 #[.val (.int p0), .val (.int p1), .val (.int p2), .val (.int (3 : Int32)), .val (.int r0), .val (.int r1), .val (.int r2), .val (.int r3), .val (.int hg), .val (.int dr), .val (.ref b7), .val (.ref b9), .val (.ref b11), .val (.ref b13), .val (.ref b15), .val (.ref b7), .val (.int ev1)] [])) := by
                    intro ev1 h_ev1
                    refine own_via (fun t k => XS.iloadN XJ245_82.here hx rfl (hb hby at_273) rfl k) ?_
                    show OwnEnds p.tables e below _ (TJ245_82.setTop (mkF m 274 #[.val (.int p0), .val (.int p1), .val (.int p2), .val (.int (3 : Int32)), .val (.int r0), .val (.int r1), .val (.int r2), .val (.int r3), .val (.int hg), .val (.int dr), .val (.ref b7), .val (.ref b9), .val (.ref b11), .val (.ref b13), .val (.ref b15), .val (.ref b7), .val (.int ev1)] [(.int (3 : Int32))]))
                    refine own_via (fun t k => XS.iconst XJ245_82.here hx rfl (hb hby at_274) k) ?_
                    show OwnEnds p.tables e below _ (TJ245_82.setTop (mkF m 275 #[.val (.int p0), .val (.int p1), .val (.int p2), .val (.int (3 : Int32)), .val (.int r0), .val (.int r1), .val (.int r2), .val (.int r3), .val (.int hg), .val (.int dr), .val (.ref b7), .val (.ref b9), .val (.ref b11), .val (.ref b13), .val (.ref b15), .val (.ref b7), .val (.int ev1)] [(.int (2 : Int32)), (.int (3 : Int32))]))
                    have hc275_86 : ¬ ((3 : Int32) < (2 : Int32)) := by decide
                    refine own_via (fun t k => XS.icmpNo XJ245_82.here hx rfl (hb hby at_275) rfl (flt hc275_86).1 k) ?_
                    show OwnEnds p.tables e below _ (TJ245_82.setTop (mkF m 278 #[.val (.int p0), .val (.int p1), .val (.int p2), .val (.int (3 : Int32)), .val (.int r0), .val (.int r1), .val (.int r2), .val (.int r3), .val (.int hg), .val (.int dr), .val (.ref b7), .val (.ref b9), .val (.ref b11), .val (.ref b13), .val (.ref b15), .val (.ref b7), .val (.int ev1)] []))
                    refine own_via (fun t k => XS.iload XJ245_82.here hx rfl (hb hby at_278) rfl k) ?_
                    show OwnEnds p.tables e below _ (TJ245_82.setTop (mkF m 280 #[.val (.int p0), .val (.int p1), .val (.int p2), .val (.int (3 : Int32)), .val (.int r0), .val (.int r1), .val (.int r2), .val (.int r3), .val (.int hg), .val (.int dr), .val (.ref b7), .val (.ref b9), .val (.ref b11), .val (.ref b13), .val (.ref b15), .val (.ref b7), .val (.int ev1)] [(.int r1)]))
                    have J286_87 : ∀ ev2 : Int32, ev2 = (if r1 = (0 : Int32) then (ev1 + (1 : Int32)) else ev1) → OwnEnds p.tables e below (OwnQ s 24 192 (Q0 Z p0 p1 p2 h0 n0)) (TJ245_82.setTop (mkF m 286 #[.val (.int p0), .val (.int p1), .val (.int p2), .val (.int (3 : Int32)), .val (.int r0), .val (.int r1), .val (.int r2), .val (.int r3), .val (.int hg), .val (.int dr), .val (.ref b7), .val (.ref b9), .val (.ref b11), .val (.ref b13), .val (.ref b15), .val (.ref b7), .val (.int ev2)] [])) := by
                      intro ev2 h_ev2
                      refine own_via (fun t k => XS.iloadN XJ245_82.here hx rfl (hb hby at_286) rfl k) ?_
                      show OwnEnds p.tables e below _ (TJ245_82.setTop (mkF m 287 #[.val (.int p0), .val (.int p1), .val (.int p2), .val (.int (3 : Int32)), .val (.int r0), .val (.int r1), .val (.int r2), .val (.int r3), .val (.int hg), .val (.int dr), .val (.ref b7), .val (.ref b9), .val (.ref b11), .val (.ref b13), .val (.ref b15), .val (.ref b7), .val (.int ev2)] [(.int (3 : Int32))]))
                      refine own_via (fun t k => XS.iconst XJ245_82.here hx rfl (hb hby at_287) k) ?_
                      show OwnEnds p.tables e below _ (TJ245_82.setTop (mkF m 288 #[.val (.int p0), .val (.int p1), .val (.int p2), .val (.int (3 : Int32)), .val (.int r0), .val (.int r1), .val (.int r2), .val (.int r3), .val (.int hg), .val (.int dr), .val (.ref b7), .val (.ref b9), .val (.ref b11), .val (.ref b13), .val (.ref b15), .val (.ref b7), .val (.int ev2)] [(.int (3 : Int32)), (.int (3 : Int32))]))
                      have hc288_88 : ¬ ((3 : Int32) < (3 : Int32)) := by decide
                      refine own_via (fun t k => XS.icmpNo XJ245_82.here hx rfl (hb hby at_288) rfl (flt hc288_88).1 k) ?_
                      show OwnEnds p.tables e below _ (TJ245_82.setTop (mkF m 291 #[.val (.int p0), .val (.int p1), .val (.int p2), .val (.int (3 : Int32)), .val (.int r0), .val (.int r1), .val (.int r2), .val (.int r3), .val (.int hg), .val (.int dr), .val (.ref b7), .val (.ref b9), .val (.ref b11), .val (.ref b13), .val (.ref b15), .val (.ref b7), .val (.int ev2)] []))
                      refine own_via (fun t k => XS.iload XJ245_82.here hx rfl (hb hby at_291) rfl k) ?_
                      show OwnEnds p.tables e below _ (TJ245_82.setTop (mkF m 293 #[.val (.int p0), .val (.int p1), .val (.int p2), .val (.int (3 : Int32)), .val (.int r0), .val (.int r1), .val (.int r2), .val (.int r3), .val (.int hg), .val (.int dr), .val (.ref b7), .val (.ref b9), .val (.ref b11), .val (.ref b13), .val (.ref b15), .val (.ref b7), .val (.int ev2)] [(.int r2)]))
                      have J299_89 : ∀ ev3 : Int32, ev3 = (if r2 = (0 : Int32) then (ev2 + (1 : Int32)) else ev2) → OwnEnds p.tables e below (OwnQ s 24 192 (Q0 Z p0 p1 p2 h0 n0)) (TJ245_82.setTop (mkF m 299 #[.val (.int p0), .val (.int p1), .val (.int p2), .val (.int (3 : Int32)), .val (.int r0), .val (.int r1), .val (.int r2), .val (.int r3), .val (.int hg), .val (.int dr), .val (.ref b7), .val (.ref b9), .val (.ref b11), .val (.ref b13), .val (.ref b15), .val (.ref b7), .val (.int ev3)] [])) := by
                        intro ev3 h_ev3
                        refine own_via (fun t k => XS.iloadN XJ245_82.here hx rfl (hb hby at_299) rfl k) ?_
                        show OwnEnds p.tables e below _ (TJ245_82.setTop (mkF m 300 #[.val (.int p0), .val (.int p1), .val (.int p2), .val (.int (3 : Int32)), .val (.int r0), .val (.int r1), .val (.int r2), .val (.int r3), .val (.int hg), .val (.int dr), .val (.ref b7), .val (.ref b9), .val (.ref b11), .val (.ref b13), .val (.ref b15), .val (.ref b7), .val (.int ev3)] [(.int (3 : Int32))]))
                        refine own_via (fun t k => XS.iconst XJ245_82.here hx rfl (hb hby at_300) k) ?_
                        show OwnEnds p.tables e below _ (TJ245_82.setTop (mkF m 301 #[.val (.int p0), .val (.int p1), .val (.int p2), .val (.int (3 : Int32)), .val (.int r0), .val (.int r1), .val (.int r2), .val (.int r3), .val (.int hg), .val (.int dr), .val (.ref b7), .val (.ref b9), .val (.ref b11), .val (.ref b13), .val (.ref b15), .val (.ref b7), .val (.int ev3)] [(.int (4 : Int32)), (.int (3 : Int32))]))
                        have hc301_90 : (3 : Int32) < (4 : Int32) := by decide
                        refine own_via (fun t k => XS.icmpYes XJ245_82.here hx rfl (pc0 := 301) (pc' := 312) rfl (hb hby at_301) rfl (tlt hc301_90).1 (by decide) (by decide) k) ?_
                        show OwnEnds p.tables e below _ (TJ245_82.setTop (mkF m 312 #[.val (.int p0), .val (.int p1), .val (.int p2), .val (.int (3 : Int32)), .val (.int r0), .val (.int r1), .val (.int r2), .val (.int r3), .val (.int hg), .val (.int dr), .val (.ref b7), .val (.ref b9), .val (.ref b11), .val (.ref b13), .val (.ref b15), .val (.ref b7), .val (.int ev3)] []))
                        refine own_via (fun t k => XS.aload XJ245_82.here hx rfl (hb hby at_312) rfl rfl k) ?_
                        show OwnEnds p.tables e below _ (TJ245_82.setTop (mkF m 314 #[.val (.int p0), .val (.int p1), .val (.int p2), .val (.int (3 : Int32)), .val (.int r0), .val (.int r1), .val (.int r2), .val (.int r3), .val (.int hg), .val (.int dr), .val (.ref b7), .val (.ref b9), .val (.ref b11), .val (.ref b13), .val (.ref b15), .val (.ref b7), .val (.int ev3)] [(.ref b7)]))
                        obtain ⟨_, _, ⟨T91, L91, k91, n91⟩, -, X91, ⟨Lc91, hQ91, l91, y91, z91⟩, st91⟩ := Jvm.LawKit.callS XJ245_82 hx (y := (⟨"com/example/rowan/rowan/Node", "blackHeight", "(Lcom/example/rowan/rowan/Node;)I"⟩ : MethodName)) hown (mvT hZ (hw _ (List.mem_of_getElem? (i := 16) rfl))) (mvT hZ (hw _ (List.mem_of_getElem? (i := 17) rfl))) (mvT hZ (hw _ (List.mem_of_getElem? (i := 2) rfl))) (mvT hZ (hw _ (List.mem_of_getElem? (i := 18) rfl))) (by decide) (backOf (W := 0) (rm3 l Z aw hw [] (.ref b7) [r0, r1, r2] hJ245_82 n0 ZsJ245_82 ⟨b7, _, rfl, F_red_b7, F_left_b7, ⟨b9, _, rfl, F_red_b9, F_left_b9, ⟨b11, _, rfl, F_red_b11, F_left_b11, (rfl : OwnCh Z hJ245_82 .null [])⟩⟩⟩ rfl) hZ (hw _ (List.mem_of_getElem? (i := 18) rfl)) (hw _ (List.mem_of_getElem? (i := 2) rfl)) (by decide) (by decide)) (g := (mkF m 314 #[.val (.int p0), .val (.int p1), .val (.int p2), .val (.int (3 : Int32)), .val (.int r0), .val (.int r1), .val (.int r2), .val (.int r3), .val (.int hg), .val (.int dr), .val (.ref b7), .val (.ref b9), .val (.ref b11), .val (.ref b13), .val (.ref b15), .val (.ref b7), .val (.int ev3)] [(.ref b7)])) rfl (by rw [hml]; rfl) (argsL := [(.ref b7)]) (rest := []) (lenOf pd_1 rfl) rfl (by show 2 * 0 + _ ≤ _; exact Nat.le_of_eq rfl) (hb hby at_314) (fun _ _ => ⟨rfl, eJ245_82, (by decide : 5 + 0 ≤ _), (by decide : 35 + 0 ≤ _)⟩)
                        dsimp only [Pt.U, Pt.locs, Pt.cells, Pt.slots] at X91 l91 y91 z91 st91 hQ91
                        subst l91 y91 z91
                        obtain ⟨rfl, Nq91, e91⟩ := hQ91
                        have N91 := Fr.app NJ245_82 Nq91
                        replace e91 : T91.heap = hJ245_82 := e91
                        refine own_via st91 ?_
                        show OwnEnds p.tables e below _ (T91.setTop (mkF m 317 #[.val (.int p0), .val (.int p1), .val (.int p2), .val (.int (3 : Int32)), .val (.int r0), .val (.int r1), .val (.int r2), .val (.int r3), .val (.int hg), .val (.int dr), .val (.ref b7), .val (.ref b9), .val (.ref b11), .val (.ref b13), .val (.ref b15), .val (.ref b7), .val (.int ev3)] [(.int (own_bh [r0, r1, r2]))]))
                        refine own_via (fun t k => XS.iload X91.here hx rfl (hb hby at_317) rfl k) ?_
                        show OwnEnds p.tables e below _ (T91.setTop (mkF m 319 #[.val (.int p0), .val (.int p1), .val (.int p2), .val (.int (3 : Int32)), .val (.int r0), .val (.int r1), .val (.int r2), .val (.int r3), .val (.int hg), .val (.int dr), .val (.ref b7), .val (.ref b9), .val (.ref b11), .val (.ref b13), .val (.ref b15), .val (.ref b7), .val (.int ev3)] [(.int ev3), (.int (own_bh [r0, r1, r2]))]))
                        have hc319_92 : (own_bh [r0, r1, r2]) = ev3 := own_b3 h_ev1 h_ev2 h_ev3
                        refine own_via (fun t k => XS.icmpNo X91.here hx rfl (hb hby at_319) rfl (teq hc319_92).2 k) ?_
                        show OwnEnds p.tables e below _ (T91.setTop (mkF m 322 #[.val (.int p0), .val (.int p1), .val (.int p2), .val (.int (3 : Int32)), .val (.int r0), .val (.int r1), .val (.int r2), .val (.int r3), .val (.int hg), .val (.int dr), .val (.ref b7), .val (.ref b9), .val (.ref b11), .val (.ref b13), .val (.ref b15), .val (.ref b7), .val (.int ev3)] []))
                        refine own_via (fun t k => XS.iconst X91.here hx rfl (hb hby at_322) k) ?_
                        show OwnEnds p.tables e below _ (T91.setTop (mkF m 323 #[.val (.int p0), .val (.int p1), .val (.int p2), .val (.int (3 : Int32)), .val (.int r0), .val (.int r1), .val (.int r2), .val (.int r3), .val (.int hg), .val (.int dr), .val (.ref b7), .val (.ref b9), .val (.ref b11), .val (.ref b13), .val (.ref b15), .val (.ref b7), .val (.int ev3)] [(.int (1 : Int32))]))
                        refine own_via (fun t k => XS.goto X91.here hx rfl (pc0 := 323) (pc' := 327) rfl (hb hby at_323) (by decide) (by decide) k) ?_
                        show OwnEnds p.tables e below _ (T91.setTop (mkF m 327 #[.val (.int p0), .val (.int p1), .val (.int p2), .val (.int (3 : Int32)), .val (.int r0), .val (.int r1), .val (.int r2), .val (.int r3), .val (.int hg), .val (.int dr), .val (.ref b7), .val (.ref b9), .val (.ref b11), .val (.ref b13), .val (.ref b15), .val (.ref b7), .val (.int ev3)] [(.int (1 : Int32))]))
                        refine own_retN (t := .boolean) X91 hx Bd.returns (by simp) hlk (hb hby at_327) ?_ (by decide) (by decide)
                        rw [e91]
                        exact ⟨rfl, N91⟩
                      by_cases hc293_93 : r2 = (0 : Int32)
                      · skip
                        refine own_via (fun t k => XS.ifNo XJ245_82.here hx rfl (hb hby at_293) rfl ((if0 _ _).trans (teq hc293_93).2) k) ?_
                        show OwnEnds p.tables e below _ (TJ245_82.setTop (mkF m 296 #[.val (.int p0), .val (.int p1), .val (.int p2), .val (.int (3 : Int32)), .val (.int r0), .val (.int r1), .val (.int r2), .val (.int r3), .val (.int hg), .val (.int dr), .val (.ref b7), .val (.ref b9), .val (.ref b11), .val (.ref b13), .val (.ref b15), .val (.ref b7), .val (.int ev2)] []))
                        refine own_via (fun t k => XS.iinc XJ245_82.here hx rfl (hb hby at_296) rfl (l' := #[.val (.int p0), .val (.int p1), .val (.int p2), .val (.int (3 : Int32)), .val (.int r0), .val (.int r1), .val (.int r2), .val (.int r3), .val (.int hg), .val (.int dr), .val (.ref b7), .val (.ref b9), .val (.ref b11), .val (.ref b13), .val (.ref b15), .val (.ref b7), .val (.int (ev2 + (1 : Int32)))]) rfl k) ?_
                        show OwnEnds p.tables e below _ (TJ245_82.setTop (mkF m 299 #[.val (.int p0), .val (.int p1), .val (.int p2), .val (.int (3 : Int32)), .val (.int r0), .val (.int r1), .val (.int r2), .val (.int r3), .val (.int hg), .val (.int dr), .val (.ref b7), .val (.ref b9), .val (.ref b11), .val (.ref b13), .val (.ref b15), .val (.ref b7), .val (.int (ev2 + (1 : Int32)))] []))
                        exact J299_89 _ (by simp only [if_pos hc293_93])
                      · skip
                        refine own_via (fun t k => XS.ifYes XJ245_82.here hx rfl (pc0 := 293) (pc' := 299) rfl (hb hby at_293) rfl ((if0 _ _).trans (feq hc293_93).2) (by decide) (by decide) k) ?_
                        show OwnEnds p.tables e below _ (TJ245_82.setTop (mkF m 299 #[.val (.int p0), .val (.int p1), .val (.int p2), .val (.int (3 : Int32)), .val (.int r0), .val (.int r1), .val (.int r2), .val (.int r3), .val (.int hg), .val (.int dr), .val (.ref b7), .val (.ref b9), .val (.ref b11), .val (.ref b13), .val (.ref b15), .val (.ref b7), .val (.int ev2)] []))
                        exact J299_89 _ (by simp only [if_neg hc293_93])
                    by_cases hc280_94 : r1 = (0 : Int32)
                    · skip
                      refine own_via (fun t k => XS.ifNo XJ245_82.here hx rfl (hb hby at_280) rfl ((if0 _ _).trans (teq hc280_94).2) k) ?_
                      show OwnEnds p.tables e below _ (TJ245_82.setTop (mkF m 283 #[.val (.int p0), .val (.int p1), .val (.int p2), .val (.int (3 : Int32)), .val (.int r0), .val (.int r1), .val (.int r2), .val (.int r3), .val (.int hg), .val (.int dr), .val (.ref b7), .val (.ref b9), .val (.ref b11), .val (.ref b13), .val (.ref b15), .val (.ref b7), .val (.int ev1)] []))
                      refine own_via (fun t k => XS.iinc XJ245_82.here hx rfl (hb hby at_283) rfl (l' := #[.val (.int p0), .val (.int p1), .val (.int p2), .val (.int (3 : Int32)), .val (.int r0), .val (.int r1), .val (.int r2), .val (.int r3), .val (.int hg), .val (.int dr), .val (.ref b7), .val (.ref b9), .val (.ref b11), .val (.ref b13), .val (.ref b15), .val (.ref b7), .val (.int (ev1 + (1 : Int32)))]) rfl k) ?_
                      show OwnEnds p.tables e below _ (TJ245_82.setTop (mkF m 286 #[.val (.int p0), .val (.int p1), .val (.int p2), .val (.int (3 : Int32)), .val (.int r0), .val (.int r1), .val (.int r2), .val (.int r3), .val (.int hg), .val (.int dr), .val (.ref b7), .val (.ref b9), .val (.ref b11), .val (.ref b13), .val (.ref b15), .val (.ref b7), .val (.int (ev1 + (1 : Int32)))] []))
                      exact J286_87 _ (by simp only [if_pos hc280_94])
                    · skip
                      refine own_via (fun t k => XS.ifYes XJ245_82.here hx rfl (pc0 := 280) (pc' := 286) rfl (hb hby at_280) rfl ((if0 _ _).trans (feq hc280_94).2) (by decide) (by decide) k) ?_
                      show OwnEnds p.tables e below _ (TJ245_82.setTop (mkF m 286 #[.val (.int p0), .val (.int p1), .val (.int p2), .val (.int (3 : Int32)), .val (.int r0), .val (.int r1), .val (.int r2), .val (.int r3), .val (.int hg), .val (.int dr), .val (.ref b7), .val (.ref b9), .val (.ref b11), .val (.ref b13), .val (.ref b15), .val (.ref b7), .val (.int ev1)] []))
                      exact J286_87 _ (by simp only [if_neg hc280_94])
                  by_cases hc267_95 : r0 = (0 : Int32)
                  · skip
                    refine own_via (fun t k => XS.ifNo XJ245_82.here hx rfl (hb hby at_267) rfl ((if0 _ _).trans (teq hc267_95).2) k) ?_
                    show OwnEnds p.tables e below _ (TJ245_82.setTop (mkF m 270 #[.val (.int p0), .val (.int p1), .val (.int p2), .val (.int (3 : Int32)), .val (.int r0), .val (.int r1), .val (.int r2), .val (.int r3), .val (.int hg), .val (.int dr), .val (.ref b7), .val (.ref b9), .val (.ref b11), .val (.ref b13), .val (.ref b15), .val (.ref b7), .val (.int (0 : Int32))] []))
                    refine own_via (fun t k => XS.iinc XJ245_82.here hx rfl (hb hby at_270) rfl (l' := #[.val (.int p0), .val (.int p1), .val (.int p2), .val (.int (3 : Int32)), .val (.int r0), .val (.int r1), .val (.int r2), .val (.int r3), .val (.int hg), .val (.int dr), .val (.ref b7), .val (.ref b9), .val (.ref b11), .val (.ref b13), .val (.ref b15), .val (.ref b7), .val (.int (1 : Int32))]) rfl k) ?_
                    show OwnEnds p.tables e below _ (TJ245_82.setTop (mkF m 273 #[.val (.int p0), .val (.int p1), .val (.int p2), .val (.int (3 : Int32)), .val (.int r0), .val (.int r1), .val (.int r2), .val (.int r3), .val (.int hg), .val (.int dr), .val (.ref b7), .val (.ref b9), .val (.ref b11), .val (.ref b13), .val (.ref b15), .val (.ref b7), .val (.int (1 : Int32))] []))
                    exact J273_85 _ (by simp only [if_pos hc267_95])
                  · skip
                    refine own_via (fun t k => XS.ifYes XJ245_82.here hx rfl (pc0 := 267) (pc' := 273) rfl (hb hby at_267) rfl ((if0 _ _).trans (feq hc267_95).2) (by decide) (by decide) k) ?_
                    show OwnEnds p.tables e below _ (TJ245_82.setTop (mkF m 273 #[.val (.int p0), .val (.int p1), .val (.int p2), .val (.int (3 : Int32)), .val (.int r0), .val (.int r1), .val (.int r2), .val (.int r3), .val (.int hg), .val (.int dr), .val (.ref b7), .val (.ref b9), .val (.ref b11), .val (.ref b13), .val (.ref b15), .val (.ref b7), .val (.int (0 : Int32))] []))
                    exact J273_85 _ (by simp only [if_neg hc267_95])
                by_cases hc214_96 : hg = (0 : Int32)
                · skip
                  refine own_via (fun t k => XS.ifYes X80.here hx rfl (pc0 := 214) (pc' := 245) rfl (hb hby at_214) rfl ((if0 _ _).trans (teq hc214_96).1) (by decide) (by decide) k) ?_
                  show OwnEnds p.tables e below _ (T80.setTop (mkF m 245 #[.val (.int p0), .val (.int p1), .val (.int p2), .val (.int (3 : Int32)), .val (.int r0), .val (.int r1), .val (.int r2), .val (.int r3), .val (.int hg), .val (.int dr), .val (.ref b7), .val (.ref b9), .val (.ref b11), .val (.ref b13), .val (.ref b15), .unset, .unset] []))
                  exact J245_82 _ _ _ (own_wide X80 (by decide) (by decide)) e80 N80 Zs_W80 E_b7 F_left_b7 F_red_b7 E_b9 F_left_b9 F_red_b9 E_b11 F_left_b11 F_red_b11 E_b13 F_left_b13 F_red_b13 E_b15 F_left_b15 F_red_b15
                · skip
                  refine own_via (fun t k => XS.ifNo X80.here hx rfl (hb hby at_214) rfl ((if0 _ _).trans (feq hc214_96).1) k) ?_
                  show OwnEnds p.tables e below _ (T80.setTop (mkF m 217 #[.val (.int p0), .val (.int p1), .val (.int p2), .val (.int (3 : Int32)), .val (.int r0), .val (.int r1), .val (.int r2), .val (.int r3), .val (.int hg), .val (.int dr), .val (.ref b7), .val (.ref b9), .val (.ref b11), .val (.ref b13), .val (.ref b15), .unset, .unset] []))
                  refine own_via (fun t k => XS.aload X80.here hx rfl (hb hby at_217) rfl rfl k) ?_
                  show OwnEnds p.tables e below _ (T80.setTop (mkF m 219 #[.val (.int p0), .val (.int p1), .val (.int p2), .val (.int (3 : Int32)), .val (.int r0), .val (.int r1), .val (.int r2), .val (.int r3), .val (.int hg), .val (.int dr), .val (.ref b7), .val (.ref b9), .val (.ref b11), .val (.ref b13), .val (.ref b15), .unset, .unset] [(.ref b7)]))
                  refine own_via (fun t k => XS.aload X80.here hx rfl (hb hby at_219) rfl rfl k) ?_
                  show OwnEnds p.tables e below _ (T80.setTop (mkF m 221 #[.val (.int p0), .val (.int p1), .val (.int p2), .val (.int (3 : Int32)), .val (.int r0), .val (.int r1), .val (.int r2), .val (.int r3), .val (.int hg), .val (.int dr), .val (.ref b7), .val (.ref b9), .val (.ref b11), .val (.ref b13), .val (.ref b15), .unset, .unset] [(.ref b15), (.ref b7)]))
                  obtain ⟨T97, h97, X97, e97, W97, st97⟩ := putF X80 hx hZ hown (host := "") (Or.inl (hw _ (List.mem_of_getElem? (i := 19) rfl))) Via.refl e80 F_right_b7 E_b7 (Or.inl (hw _ (List.mem_of_getElem? (i := 20) rfl))) (hw _ (List.mem_of_getElem? (i := 1) rfl)) (ty := (.object "com/example/rowan/rowan/Node")) (by decide) rfl rfl (g := (mkF m 221 #[.val (.int p0), .val (.int p1), .val (.int p2), .val (.int (3 : Int32)), .val (.int r0), .val (.int r1), .val (.int r2), .val (.int r3), .val (.int hg), .val (.int dr), .val (.ref b7), .val (.ref b9), .val (.ref b11), .val (.ref b13), .val (.ref b15), .unset, .unset] [(.ref b15), (.ref b7)])) rfl rfl (hb hby at_221)
                  replace E_b7 := E_b7.wr W97
                  replace F_left_b7 := F_left_b7.other W97 (Or.inr (slot_ne (Or.inl (hw _ (List.mem_of_getElem? (i := 22) rfl))) (Or.inl (hw _ (List.mem_of_getElem? (i := 20) rfl))) (by decide) (t := (.object "com/example/rowan/rowan/Node")) (t' := (.object "com/example/rowan/rowan/Node")) (by decide) (by decide)))
                  replace F_right_b7 := F_right_b7.same W97
                  replace F_red_b7 := F_red_b7.other W97 (Or.inr (slot_ne (Or.inl (hw _ (List.mem_of_getElem? (i := 14) rfl))) (Or.inl (hw _ (List.mem_of_getElem? (i := 20) rfl))) (by decide) (t := .boolean) (t' := (.object "com/example/rowan/rowan/Node")) (by decide) (by decide)))
                  replace E_b9 := E_b9.wr W97
                  replace F_left_b9 := F_left_b9.other W97 (Or.inl (Ne.symm ne_b7_b9))
                  replace F_right_b9 := F_right_b9.other W97 (Or.inl (Ne.symm ne_b7_b9))
                  replace F_red_b9 := F_red_b9.other W97 (Or.inl (Ne.symm ne_b7_b9))
                  replace E_b11 := E_b11.wr W97
                  replace F_left_b11 := F_left_b11.other W97 (Or.inl (Ne.symm ne_b7_b11))
                  replace F_right_b11 := F_right_b11.other W97 (Or.inl (Ne.symm ne_b7_b11))
                  replace F_red_b11 := F_red_b11.other W97 (Or.inl (Ne.symm ne_b7_b11))
                  replace E_b13 := E_b13.wr W97
                  replace F_left_b13 := F_left_b13.other W97 (Or.inl (Ne.symm ne_b7_b13))
                  replace F_right_b13 := F_right_b13.other W97 (Or.inl (Ne.symm ne_b7_b13))
                  replace F_red_b13 := F_red_b13.other W97 (Or.inl (Ne.symm ne_b7_b13))
                  replace E_b15 := E_b15.wr W97
                  replace F_left_b15 := F_left_b15.other W97 (Or.inl (Ne.symm ne_b7_b15))
                  replace F_right_b15 := F_right_b15.other W97 (Or.inl (Ne.symm ne_b7_b15))
                  replace F_red_b15 := F_red_b15.other W97 (Or.inl (Ne.symm ne_b7_b15))
                  have Zs_W97 : n0 ≤ _ := Nat.le_trans Zs_W80 (Keep.of_wr W97).1
                  have N97 := Fr.snoc X97 N80 g_b7
                  refine own_via st97 ?_
                  show OwnEnds p.tables e below _ (T97.setTop (mkF m 224 #[.val (.int p0), .val (.int p1), .val (.int p2), .val (.int (3 : Int32)), .val (.int r0), .val (.int r1), .val (.int r2), .val (.int r3), .val (.int hg), .val (.int dr), .val (.ref b7), .val (.ref b9), .val (.ref b11), .val (.ref b13), .val (.ref b15), .unset, .unset] []))
                  refine own_via (fun t k => XS.aload X97.here hx rfl (hb hby at_224) rfl rfl k) ?_
                  show OwnEnds p.tables e below _ (T97.setTop (mkF m 226 #[.val (.int p0), .val (.int p1), .val (.int p2), .val (.int (3 : Int32)), .val (.int r0), .val (.int r1), .val (.int r2), .val (.int r3), .val (.int hg), .val (.int dr), .val (.ref b7), .val (.ref b9), .val (.ref b11), .val (.ref b13), .val (.ref b15), .unset, .unset] [(.ref b9)]))
                  refine own_via (fun t k => XS.aload X97.here hx rfl (hb hby at_226) rfl rfl k) ?_
                  show OwnEnds p.tables e below _ (T97.setTop (mkF m 228 #[.val (.int p0), .val (.int p1), .val (.int p2), .val (.int (3 : Int32)), .val (.int r0), .val (.int r1), .val (.int r2), .val (.int r3), .val (.int hg), .val (.int dr), .val (.ref b7), .val (.ref b9), .val (.ref b11), .val (.ref b13), .val (.ref b15), .unset, .unset] [(.ref b15), (.ref b9)]))
                  obtain ⟨T98, h98, X98, e98, W98, st98⟩ := putF X97 hx hZ hown (host := "") (Or.inl (hw _ (List.mem_of_getElem? (i := 19) rfl))) Via.refl e97 F_right_b9 E_b9 (Or.inl (hw _ (List.mem_of_getElem? (i := 20) rfl))) (hw _ (List.mem_of_getElem? (i := 1) rfl)) (ty := (.object "com/example/rowan/rowan/Node")) (by decide) rfl rfl (g := (mkF m 228 #[.val (.int p0), .val (.int p1), .val (.int p2), .val (.int (3 : Int32)), .val (.int r0), .val (.int r1), .val (.int r2), .val (.int r3), .val (.int hg), .val (.int dr), .val (.ref b7), .val (.ref b9), .val (.ref b11), .val (.ref b13), .val (.ref b15), .unset, .unset] [(.ref b15), (.ref b9)])) rfl rfl (hb hby at_228)
                  replace E_b7 := E_b7.wr W98
                  replace F_left_b7 := F_left_b7.other W98 (Or.inl ne_b7_b9)
                  replace F_right_b7 := F_right_b7.other W98 (Or.inl ne_b7_b9)
                  replace F_red_b7 := F_red_b7.other W98 (Or.inl ne_b7_b9)
                  replace E_b9 := E_b9.wr W98
                  replace F_left_b9 := F_left_b9.other W98 (Or.inr (slot_ne (Or.inl (hw _ (List.mem_of_getElem? (i := 22) rfl))) (Or.inl (hw _ (List.mem_of_getElem? (i := 20) rfl))) (by decide) (t := (.object "com/example/rowan/rowan/Node")) (t' := (.object "com/example/rowan/rowan/Node")) (by decide) (by decide)))
                  replace F_right_b9 := F_right_b9.same W98
                  replace F_red_b9 := F_red_b9.other W98 (Or.inr (slot_ne (Or.inl (hw _ (List.mem_of_getElem? (i := 14) rfl))) (Or.inl (hw _ (List.mem_of_getElem? (i := 20) rfl))) (by decide) (t := .boolean) (t' := (.object "com/example/rowan/rowan/Node")) (by decide) (by decide)))
                  replace E_b11 := E_b11.wr W98
                  replace F_left_b11 := F_left_b11.other W98 (Or.inl (Ne.symm ne_b9_b11))
                  replace F_right_b11 := F_right_b11.other W98 (Or.inl (Ne.symm ne_b9_b11))
                  replace F_red_b11 := F_red_b11.other W98 (Or.inl (Ne.symm ne_b9_b11))
                  replace E_b13 := E_b13.wr W98
                  replace F_left_b13 := F_left_b13.other W98 (Or.inl (Ne.symm ne_b9_b13))
                  replace F_right_b13 := F_right_b13.other W98 (Or.inl (Ne.symm ne_b9_b13))
                  replace F_red_b13 := F_red_b13.other W98 (Or.inl (Ne.symm ne_b9_b13))
                  replace E_b15 := E_b15.wr W98
                  replace F_left_b15 := F_left_b15.other W98 (Or.inl (Ne.symm ne_b9_b15))
                  replace F_right_b15 := F_right_b15.other W98 (Or.inl (Ne.symm ne_b9_b15))
                  replace F_red_b15 := F_red_b15.other W98 (Or.inl (Ne.symm ne_b9_b15))
                  have Zs_W98 : n0 ≤ _ := Nat.le_trans Zs_W97 (Keep.of_wr W98).1
                  have N98 := Fr.snoc X98 N97 g_b9
                  refine own_via st98 ?_
                  show OwnEnds p.tables e below _ (T98.setTop (mkF m 231 #[.val (.int p0), .val (.int p1), .val (.int p2), .val (.int (3 : Int32)), .val (.int r0), .val (.int r1), .val (.int r2), .val (.int r3), .val (.int hg), .val (.int dr), .val (.ref b7), .val (.ref b9), .val (.ref b11), .val (.ref b13), .val (.ref b15), .unset, .unset] []))
                  refine own_via (fun t k => XS.aload X98.here hx rfl (hb hby at_231) rfl rfl k) ?_
                  show OwnEnds p.tables e below _ (T98.setTop (mkF m 233 #[.val (.int p0), .val (.int p1), .val (.int p2), .val (.int (3 : Int32)), .val (.int r0), .val (.int r1), .val (.int r2), .val (.int r3), .val (.int hg), .val (.int dr), .val (.ref b7), .val (.ref b9), .val (.ref b11), .val (.ref b13), .val (.ref b15), .unset, .unset] [(.ref b11)]))
                  refine own_via (fun t k => XS.aload X98.here hx rfl (hb hby at_233) rfl rfl k) ?_
                  show OwnEnds p.tables e below _ (T98.setTop (mkF m 235 #[.val (.int p0), .val (.int p1), .val (.int p2), .val (.int (3 : Int32)), .val (.int r0), .val (.int r1), .val (.int r2), .val (.int r3), .val (.int hg), .val (.int dr), .val (.ref b7), .val (.ref b9), .val (.ref b11), .val (.ref b13), .val (.ref b15), .unset, .unset] [(.ref b15), (.ref b11)]))
                  obtain ⟨T99, h99, X99, e99, W99, st99⟩ := putF X98 hx hZ hown (host := "") (Or.inl (hw _ (List.mem_of_getElem? (i := 19) rfl))) Via.refl e98 F_right_b11 E_b11 (Or.inl (hw _ (List.mem_of_getElem? (i := 20) rfl))) (hw _ (List.mem_of_getElem? (i := 1) rfl)) (ty := (.object "com/example/rowan/rowan/Node")) (by decide) rfl rfl (g := (mkF m 235 #[.val (.int p0), .val (.int p1), .val (.int p2), .val (.int (3 : Int32)), .val (.int r0), .val (.int r1), .val (.int r2), .val (.int r3), .val (.int hg), .val (.int dr), .val (.ref b7), .val (.ref b9), .val (.ref b11), .val (.ref b13), .val (.ref b15), .unset, .unset] [(.ref b15), (.ref b11)])) rfl rfl (hb hby at_235)
                  replace E_b7 := E_b7.wr W99
                  replace F_left_b7 := F_left_b7.other W99 (Or.inl ne_b7_b11)
                  replace F_right_b7 := F_right_b7.other W99 (Or.inl ne_b7_b11)
                  replace F_red_b7 := F_red_b7.other W99 (Or.inl ne_b7_b11)
                  replace E_b9 := E_b9.wr W99
                  replace F_left_b9 := F_left_b9.other W99 (Or.inl ne_b9_b11)
                  replace F_right_b9 := F_right_b9.other W99 (Or.inl ne_b9_b11)
                  replace F_red_b9 := F_red_b9.other W99 (Or.inl ne_b9_b11)
                  replace E_b11 := E_b11.wr W99
                  replace F_left_b11 := F_left_b11.other W99 (Or.inr (slot_ne (Or.inl (hw _ (List.mem_of_getElem? (i := 22) rfl))) (Or.inl (hw _ (List.mem_of_getElem? (i := 20) rfl))) (by decide) (t := (.object "com/example/rowan/rowan/Node")) (t' := (.object "com/example/rowan/rowan/Node")) (by decide) (by decide)))
                  replace F_right_b11 := F_right_b11.same W99
                  replace F_red_b11 := F_red_b11.other W99 (Or.inr (slot_ne (Or.inl (hw _ (List.mem_of_getElem? (i := 14) rfl))) (Or.inl (hw _ (List.mem_of_getElem? (i := 20) rfl))) (by decide) (t := .boolean) (t' := (.object "com/example/rowan/rowan/Node")) (by decide) (by decide)))
                  replace E_b13 := E_b13.wr W99
                  replace F_left_b13 := F_left_b13.other W99 (Or.inl (Ne.symm ne_b11_b13))
                  replace F_right_b13 := F_right_b13.other W99 (Or.inl (Ne.symm ne_b11_b13))
                  replace F_red_b13 := F_red_b13.other W99 (Or.inl (Ne.symm ne_b11_b13))
                  replace E_b15 := E_b15.wr W99
                  replace F_left_b15 := F_left_b15.other W99 (Or.inl (Ne.symm ne_b11_b15))
                  replace F_right_b15 := F_right_b15.other W99 (Or.inl (Ne.symm ne_b11_b15))
                  replace F_red_b15 := F_red_b15.other W99 (Or.inl (Ne.symm ne_b11_b15))
                  have Zs_W99 : n0 ≤ _ := Nat.le_trans Zs_W98 (Keep.of_wr W99).1
                  have N99 := Fr.snoc X99 N98 g_b11
                  refine own_via st99 ?_
                  show OwnEnds p.tables e below _ (T99.setTop (mkF m 238 #[.val (.int p0), .val (.int p1), .val (.int p2), .val (.int (3 : Int32)), .val (.int r0), .val (.int r1), .val (.int r2), .val (.int r3), .val (.int hg), .val (.int dr), .val (.ref b7), .val (.ref b9), .val (.ref b11), .val (.ref b13), .val (.ref b15), .unset, .unset] []))
                  refine own_via (fun t k => XS.aload X99.here hx rfl (hb hby at_238) rfl rfl k) ?_
                  show OwnEnds p.tables e below _ (T99.setTop (mkF m 240 #[.val (.int p0), .val (.int p1), .val (.int p2), .val (.int (3 : Int32)), .val (.int r0), .val (.int r1), .val (.int r2), .val (.int r3), .val (.int hg), .val (.int dr), .val (.ref b7), .val (.ref b9), .val (.ref b11), .val (.ref b13), .val (.ref b15), .unset, .unset] [(.ref b13)]))
                  refine own_via (fun t k => XS.aload X99.here hx rfl (hb hby at_240) rfl rfl k) ?_
                  show OwnEnds p.tables e below _ (T99.setTop (mkF m 242 #[.val (.int p0), .val (.int p1), .val (.int p2), .val (.int (3 : Int32)), .val (.int r0), .val (.int r1), .val (.int r2), .val (.int r3), .val (.int hg), .val (.int dr), .val (.ref b7), .val (.ref b9), .val (.ref b11), .val (.ref b13), .val (.ref b15), .unset, .unset] [(.ref b15), (.ref b13)]))
                  obtain ⟨T100, h100, X100, e100, W100, st100⟩ := putF X99 hx hZ hown (host := "") (Or.inl (hw _ (List.mem_of_getElem? (i := 19) rfl))) Via.refl e99 F_right_b13 E_b13 (Or.inl (hw _ (List.mem_of_getElem? (i := 20) rfl))) (hw _ (List.mem_of_getElem? (i := 1) rfl)) (ty := (.object "com/example/rowan/rowan/Node")) (by decide) rfl rfl (g := (mkF m 242 #[.val (.int p0), .val (.int p1), .val (.int p2), .val (.int (3 : Int32)), .val (.int r0), .val (.int r1), .val (.int r2), .val (.int r3), .val (.int hg), .val (.int dr), .val (.ref b7), .val (.ref b9), .val (.ref b11), .val (.ref b13), .val (.ref b15), .unset, .unset] [(.ref b15), (.ref b13)])) rfl rfl (hb hby at_242)
                  replace E_b7 := E_b7.wr W100
                  replace F_left_b7 := F_left_b7.other W100 (Or.inl ne_b7_b13)
                  replace F_right_b7 := F_right_b7.other W100 (Or.inl ne_b7_b13)
                  replace F_red_b7 := F_red_b7.other W100 (Or.inl ne_b7_b13)
                  replace E_b9 := E_b9.wr W100
                  replace F_left_b9 := F_left_b9.other W100 (Or.inl ne_b9_b13)
                  replace F_right_b9 := F_right_b9.other W100 (Or.inl ne_b9_b13)
                  replace F_red_b9 := F_red_b9.other W100 (Or.inl ne_b9_b13)
                  replace E_b11 := E_b11.wr W100
                  replace F_left_b11 := F_left_b11.other W100 (Or.inl ne_b11_b13)
                  replace F_right_b11 := F_right_b11.other W100 (Or.inl ne_b11_b13)
                  replace F_red_b11 := F_red_b11.other W100 (Or.inl ne_b11_b13)
                  replace E_b13 := E_b13.wr W100
                  replace F_left_b13 := F_left_b13.other W100 (Or.inr (slot_ne (Or.inl (hw _ (List.mem_of_getElem? (i := 22) rfl))) (Or.inl (hw _ (List.mem_of_getElem? (i := 20) rfl))) (by decide) (t := (.object "com/example/rowan/rowan/Node")) (t' := (.object "com/example/rowan/rowan/Node")) (by decide) (by decide)))
                  replace F_right_b13 := F_right_b13.same W100
                  replace F_red_b13 := F_red_b13.other W100 (Or.inr (slot_ne (Or.inl (hw _ (List.mem_of_getElem? (i := 14) rfl))) (Or.inl (hw _ (List.mem_of_getElem? (i := 20) rfl))) (by decide) (t := .boolean) (t' := (.object "com/example/rowan/rowan/Node")) (by decide) (by decide)))
                  replace E_b15 := E_b15.wr W100
                  replace F_left_b15 := F_left_b15.other W100 (Or.inl (Ne.symm ne_b13_b15))
                  replace F_right_b15 := F_right_b15.other W100 (Or.inl (Ne.symm ne_b13_b15))
                  replace F_red_b15 := F_red_b15.other W100 (Or.inl (Ne.symm ne_b13_b15))
                  have Zs_W100 : n0 ≤ _ := Nat.le_trans Zs_W99 (Keep.of_wr W100).1
                  have N100 := Fr.snoc X100 N99 g_b13
                  refine own_via st100 ?_
                  show OwnEnds p.tables e below _ (T100.setTop (mkF m 245 #[.val (.int p0), .val (.int p1), .val (.int p2), .val (.int (3 : Int32)), .val (.int r0), .val (.int r1), .val (.int r2), .val (.int r3), .val (.int hg), .val (.int dr), .val (.ref b7), .val (.ref b9), .val (.ref b11), .val (.ref b13), .val (.ref b15), .unset, .unset] []))
                  exact J245_82 _ _ _ (own_wide X100 (by decide) (by decide)) e100 N100 Zs_W100 E_b7 F_left_b7 F_red_b7 E_b9 F_left_b9 F_red_b9 E_b11 F_left_b11 F_red_b11 E_b13 F_left_b13 F_red_b13 E_b15 F_left_b15 F_red_b15
              · skip
                subst q
                show OwnEnds p.tables e below _ (T21.setTop (mkF m 176 #[.val (.int p0), .val (.int p1), .val (.int p2), .val (.int (4 : Int32)), .val (.int r0), .val (.int r1), .val (.int r2), .val (.int r3), .val (.int hg), .val (.int dr), .val (.ref b7), .val (.ref b9), .val (.ref b11), .val (.ref b13), .val (.ref b15), .unset, .unset] []))
                refine own_via (fun t k => XS.iloadN X21.here hx rfl (hb hby at_176) rfl k) ?_
                show OwnEnds p.tables e below _ (T21.setTop (mkF m 177 #[.val (.int p0), .val (.int p1), .val (.int p2), .val (.int (4 : Int32)), .val (.int r0), .val (.int r1), .val (.int r2), .val (.int r3), .val (.int hg), .val (.int dr), .val (.ref b7), .val (.ref b9), .val (.ref b11), .val (.ref b13), .val (.ref b15), .unset, .unset] [(.int (4 : Int32))]))
                refine own_via (fun t k => XS.iconst X21.here hx rfl (hb hby at_177) k) ?_
                show OwnEnds p.tables e below _ (T21.setTop (mkF m 178 #[.val (.int p0), .val (.int p1), .val (.int p2), .val (.int (4 : Int32)), .val (.int r0), .val (.int r1), .val (.int r2), .val (.int r3), .val (.int hg), .val (.int dr), .val (.ref b7), .val (.ref b9), .val (.ref b11), .val (.ref b13), .val (.ref b15), .unset, .unset] [(.int (2 : Int32)), (.int (4 : Int32))]))
                have hc178_101 : ¬ ((4 : Int32) < (2 : Int32)) := by decide
                refine own_via (fun t k => XS.icmpNo X21.here hx rfl (hb hby at_178) rfl (flt hc178_101).1 k) ?_
                show OwnEnds p.tables e below _ (T21.setTop (mkF m 181 #[.val (.int p0), .val (.int p1), .val (.int p2), .val (.int (4 : Int32)), .val (.int r0), .val (.int r1), .val (.int r2), .val (.int r3), .val (.int hg), .val (.int dr), .val (.ref b7), .val (.ref b9), .val (.ref b11), .val (.ref b13), .val (.ref b15), .unset, .unset] []))
                refine own_via (fun t k => XS.aload X21.here hx rfl (hb hby at_181) rfl rfl k) ?_
                show OwnEnds p.tables e below _ (T21.setTop (mkF m 183 #[.val (.int p0), .val (.int p1), .val (.int p2), .val (.int (4 : Int32)), .val (.int r0), .val (.int r1), .val (.int r2), .val (.int r3), .val (.int hg), .val (.int dr), .val (.ref b7), .val (.ref b9), .val (.ref b11), .val (.ref b13), .val (.ref b15), .unset, .unset] [(.ref b7)]))
                refine own_via (fun t k => XS.aload X21.here hx rfl (hb hby at_183) rfl rfl k) ?_
                show OwnEnds p.tables e below _ (T21.setTop (mkF m 185 #[.val (.int p0), .val (.int p1), .val (.int p2), .val (.int (4 : Int32)), .val (.int r0), .val (.int r1), .val (.int r2), .val (.int r3), .val (.int hg), .val (.int dr), .val (.ref b7), .val (.ref b9), .val (.ref b11), .val (.ref b13), .val (.ref b15), .unset, .unset] [(.ref b9), (.ref b7)]))
                obtain ⟨T102, h102, X102, e102, W102, st102⟩ := putF X21 hx hZ hown (host := "") (Or.inl (hw _ (List.mem_of_getElem? (i := 23) rfl))) Via.refl e21 F_left_b7 E_b7 (Or.inl (hw _ (List.mem_of_getElem? (i := 22) rfl))) (hw _ (List.mem_of_getElem? (i := 1) rfl)) (ty := (.object "com/example/rowan/rowan/Node")) (by decide) rfl rfl (g := (mkF m 185 #[.val (.int p0), .val (.int p1), .val (.int p2), .val (.int (4 : Int32)), .val (.int r0), .val (.int r1), .val (.int r2), .val (.int r3), .val (.int hg), .val (.int dr), .val (.ref b7), .val (.ref b9), .val (.ref b11), .val (.ref b13), .val (.ref b15), .unset, .unset] [(.ref b9), (.ref b7)])) rfl rfl (hb hby at_185)
                replace E_b7 := E_b7.wr W102
                replace F_left_b7 := F_left_b7.same W102
                replace F_right_b7 := F_right_b7.other W102 (Or.inr (slot_ne (Or.inl (hw _ (List.mem_of_getElem? (i := 20) rfl))) (Or.inl (hw _ (List.mem_of_getElem? (i := 22) rfl))) (by decide) (t := (.object "com/example/rowan/rowan/Node")) (t' := (.object "com/example/rowan/rowan/Node")) (by decide) (by decide)))
                replace F_red_b7 := F_red_b7.other W102 (Or.inr (slot_ne (Or.inl (hw _ (List.mem_of_getElem? (i := 14) rfl))) (Or.inl (hw _ (List.mem_of_getElem? (i := 22) rfl))) (by decide) (t := .boolean) (t' := (.object "com/example/rowan/rowan/Node")) (by decide) (by decide)))
                replace E_b9 := E_b9.wr W102
                replace F_left_b9 := F_left_b9.other W102 (Or.inl (Ne.symm ne_b7_b9))
                replace F_right_b9 := F_right_b9.other W102 (Or.inl (Ne.symm ne_b7_b9))
                replace F_red_b9 := F_red_b9.other W102 (Or.inl (Ne.symm ne_b7_b9))
                replace E_b11 := E_b11.wr W102
                replace F_left_b11 := F_left_b11.other W102 (Or.inl (Ne.symm ne_b7_b11))
                replace F_right_b11 := F_right_b11.other W102 (Or.inl (Ne.symm ne_b7_b11))
                replace F_red_b11 := F_red_b11.other W102 (Or.inl (Ne.symm ne_b7_b11))
                replace E_b13 := E_b13.wr W102
                replace F_left_b13 := F_left_b13.other W102 (Or.inl (Ne.symm ne_b7_b13))
                replace F_right_b13 := F_right_b13.other W102 (Or.inl (Ne.symm ne_b7_b13))
                replace F_red_b13 := F_red_b13.other W102 (Or.inl (Ne.symm ne_b7_b13))
                replace E_b15 := E_b15.wr W102
                replace F_left_b15 := F_left_b15.other W102 (Or.inl (Ne.symm ne_b7_b15))
                replace F_right_b15 := F_right_b15.other W102 (Or.inl (Ne.symm ne_b7_b15))
                replace F_red_b15 := F_red_b15.other W102 (Or.inl (Ne.symm ne_b7_b15))
                have Zs_W102 : n0 ≤ _ := Nat.le_trans Zs_W21 (Keep.of_wr W102).1
                have N102 := Fr.snoc X102 N21 g_b7
                refine own_via st102 ?_
                show OwnEnds p.tables e below _ (T102.setTop (mkF m 188 #[.val (.int p0), .val (.int p1), .val (.int p2), .val (.int (4 : Int32)), .val (.int r0), .val (.int r1), .val (.int r2), .val (.int r3), .val (.int hg), .val (.int dr), .val (.ref b7), .val (.ref b9), .val (.ref b11), .val (.ref b13), .val (.ref b15), .unset, .unset] []))
                refine own_via (fun t k => XS.iloadN X102.here hx rfl (hb hby at_188) rfl k) ?_
                show OwnEnds p.tables e below _ (T102.setTop (mkF m 189 #[.val (.int p0), .val (.int p1), .val (.int p2), .val (.int (4 : Int32)), .val (.int r0), .val (.int r1), .val (.int r2), .val (.int r3), .val (.int hg), .val (.int dr), .val (.ref b7), .val (.ref b9), .val (.ref b11), .val (.ref b13), .val (.ref b15), .unset, .unset] [(.int (4 : Int32))]))
                refine own_via (fun t k => XS.iconst X102.here hx rfl (hb hby at_189) k) ?_
                show OwnEnds p.tables e below _ (T102.setTop (mkF m 190 #[.val (.int p0), .val (.int p1), .val (.int p2), .val (.int (4 : Int32)), .val (.int r0), .val (.int r1), .val (.int r2), .val (.int r3), .val (.int hg), .val (.int dr), .val (.ref b7), .val (.ref b9), .val (.ref b11), .val (.ref b13), .val (.ref b15), .unset, .unset] [(.int (3 : Int32)), (.int (4 : Int32))]))
                have hc190_103 : ¬ ((4 : Int32) < (3 : Int32)) := by decide
                refine own_via (fun t k => XS.icmpNo X102.here hx rfl (hb hby at_190) rfl (flt hc190_103).1 k) ?_
                show OwnEnds p.tables e below _ (T102.setTop (mkF m 193 #[.val (.int p0), .val (.int p1), .val (.int p2), .val (.int (4 : Int32)), .val (.int r0), .val (.int r1), .val (.int r2), .val (.int r3), .val (.int hg), .val (.int dr), .val (.ref b7), .val (.ref b9), .val (.ref b11), .val (.ref b13), .val (.ref b15), .unset, .unset] []))
                refine own_via (fun t k => XS.aload X102.here hx rfl (hb hby at_193) rfl rfl k) ?_
                show OwnEnds p.tables e below _ (T102.setTop (mkF m 195 #[.val (.int p0), .val (.int p1), .val (.int p2), .val (.int (4 : Int32)), .val (.int r0), .val (.int r1), .val (.int r2), .val (.int r3), .val (.int hg), .val (.int dr), .val (.ref b7), .val (.ref b9), .val (.ref b11), .val (.ref b13), .val (.ref b15), .unset, .unset] [(.ref b9)]))
                refine own_via (fun t k => XS.aload X102.here hx rfl (hb hby at_195) rfl rfl k) ?_
                show OwnEnds p.tables e below _ (T102.setTop (mkF m 197 #[.val (.int p0), .val (.int p1), .val (.int p2), .val (.int (4 : Int32)), .val (.int r0), .val (.int r1), .val (.int r2), .val (.int r3), .val (.int hg), .val (.int dr), .val (.ref b7), .val (.ref b9), .val (.ref b11), .val (.ref b13), .val (.ref b15), .unset, .unset] [(.ref b11), (.ref b9)]))
                obtain ⟨T104, h104, X104, e104, W104, st104⟩ := putF X102 hx hZ hown (host := "") (Or.inl (hw _ (List.mem_of_getElem? (i := 23) rfl))) Via.refl e102 F_left_b9 E_b9 (Or.inl (hw _ (List.mem_of_getElem? (i := 22) rfl))) (hw _ (List.mem_of_getElem? (i := 1) rfl)) (ty := (.object "com/example/rowan/rowan/Node")) (by decide) rfl rfl (g := (mkF m 197 #[.val (.int p0), .val (.int p1), .val (.int p2), .val (.int (4 : Int32)), .val (.int r0), .val (.int r1), .val (.int r2), .val (.int r3), .val (.int hg), .val (.int dr), .val (.ref b7), .val (.ref b9), .val (.ref b11), .val (.ref b13), .val (.ref b15), .unset, .unset] [(.ref b11), (.ref b9)])) rfl rfl (hb hby at_197)
                replace E_b7 := E_b7.wr W104
                replace F_left_b7 := F_left_b7.other W104 (Or.inl ne_b7_b9)
                replace F_right_b7 := F_right_b7.other W104 (Or.inl ne_b7_b9)
                replace F_red_b7 := F_red_b7.other W104 (Or.inl ne_b7_b9)
                replace E_b9 := E_b9.wr W104
                replace F_left_b9 := F_left_b9.same W104
                replace F_right_b9 := F_right_b9.other W104 (Or.inr (slot_ne (Or.inl (hw _ (List.mem_of_getElem? (i := 20) rfl))) (Or.inl (hw _ (List.mem_of_getElem? (i := 22) rfl))) (by decide) (t := (.object "com/example/rowan/rowan/Node")) (t' := (.object "com/example/rowan/rowan/Node")) (by decide) (by decide)))
                replace F_red_b9 := F_red_b9.other W104 (Or.inr (slot_ne (Or.inl (hw _ (List.mem_of_getElem? (i := 14) rfl))) (Or.inl (hw _ (List.mem_of_getElem? (i := 22) rfl))) (by decide) (t := .boolean) (t' := (.object "com/example/rowan/rowan/Node")) (by decide) (by decide)))
                replace E_b11 := E_b11.wr W104
                replace F_left_b11 := F_left_b11.other W104 (Or.inl (Ne.symm ne_b9_b11))
                replace F_right_b11 := F_right_b11.other W104 (Or.inl (Ne.symm ne_b9_b11))
                replace F_red_b11 := F_red_b11.other W104 (Or.inl (Ne.symm ne_b9_b11))
                replace E_b13 := E_b13.wr W104
                replace F_left_b13 := F_left_b13.other W104 (Or.inl (Ne.symm ne_b9_b13))
                replace F_right_b13 := F_right_b13.other W104 (Or.inl (Ne.symm ne_b9_b13))
                replace F_red_b13 := F_red_b13.other W104 (Or.inl (Ne.symm ne_b9_b13))
                replace E_b15 := E_b15.wr W104
                replace F_left_b15 := F_left_b15.other W104 (Or.inl (Ne.symm ne_b9_b15))
                replace F_right_b15 := F_right_b15.other W104 (Or.inl (Ne.symm ne_b9_b15))
                replace F_red_b15 := F_red_b15.other W104 (Or.inl (Ne.symm ne_b9_b15))
                have Zs_W104 : n0 ≤ _ := Nat.le_trans Zs_W102 (Keep.of_wr W104).1
                have N104 := Fr.snoc X104 N102 g_b9
                refine own_via st104 ?_
                show OwnEnds p.tables e below _ (T104.setTop (mkF m 200 #[.val (.int p0), .val (.int p1), .val (.int p2), .val (.int (4 : Int32)), .val (.int r0), .val (.int r1), .val (.int r2), .val (.int r3), .val (.int hg), .val (.int dr), .val (.ref b7), .val (.ref b9), .val (.ref b11), .val (.ref b13), .val (.ref b15), .unset, .unset] []))
                refine own_via (fun t k => XS.iloadN X104.here hx rfl (hb hby at_200) rfl k) ?_
                show OwnEnds p.tables e below _ (T104.setTop (mkF m 201 #[.val (.int p0), .val (.int p1), .val (.int p2), .val (.int (4 : Int32)), .val (.int r0), .val (.int r1), .val (.int r2), .val (.int r3), .val (.int hg), .val (.int dr), .val (.ref b7), .val (.ref b9), .val (.ref b11), .val (.ref b13), .val (.ref b15), .unset, .unset] [(.int (4 : Int32))]))
                refine own_via (fun t k => XS.iconst X104.here hx rfl (hb hby at_201) k) ?_
                show OwnEnds p.tables e below _ (T104.setTop (mkF m 202 #[.val (.int p0), .val (.int p1), .val (.int p2), .val (.int (4 : Int32)), .val (.int r0), .val (.int r1), .val (.int r2), .val (.int r3), .val (.int hg), .val (.int dr), .val (.ref b7), .val (.ref b9), .val (.ref b11), .val (.ref b13), .val (.ref b15), .unset, .unset] [(.int (4 : Int32)), (.int (4 : Int32))]))
                have hc202_105 : ¬ ((4 : Int32) < (4 : Int32)) := by decide
                refine own_via (fun t k => XS.icmpNo X104.here hx rfl (hb hby at_202) rfl (flt hc202_105).1 k) ?_
                show OwnEnds p.tables e below _ (T104.setTop (mkF m 205 #[.val (.int p0), .val (.int p1), .val (.int p2), .val (.int (4 : Int32)), .val (.int r0), .val (.int r1), .val (.int r2), .val (.int r3), .val (.int hg), .val (.int dr), .val (.ref b7), .val (.ref b9), .val (.ref b11), .val (.ref b13), .val (.ref b15), .unset, .unset] []))
                refine own_via (fun t k => XS.aload X104.here hx rfl (hb hby at_205) rfl rfl k) ?_
                show OwnEnds p.tables e below _ (T104.setTop (mkF m 207 #[.val (.int p0), .val (.int p1), .val (.int p2), .val (.int (4 : Int32)), .val (.int r0), .val (.int r1), .val (.int r2), .val (.int r3), .val (.int hg), .val (.int dr), .val (.ref b7), .val (.ref b9), .val (.ref b11), .val (.ref b13), .val (.ref b15), .unset, .unset] [(.ref b11)]))
                refine own_via (fun t k => XS.aload X104.here hx rfl (hb hby at_207) rfl rfl k) ?_
                show OwnEnds p.tables e below _ (T104.setTop (mkF m 209 #[.val (.int p0), .val (.int p1), .val (.int p2), .val (.int (4 : Int32)), .val (.int r0), .val (.int r1), .val (.int r2), .val (.int r3), .val (.int hg), .val (.int dr), .val (.ref b7), .val (.ref b9), .val (.ref b11), .val (.ref b13), .val (.ref b15), .unset, .unset] [(.ref b13), (.ref b11)]))
                obtain ⟨T106, h106, X106, e106, W106, st106⟩ := putF X104 hx hZ hown (host := "") (Or.inl (hw _ (List.mem_of_getElem? (i := 23) rfl))) Via.refl e104 F_left_b11 E_b11 (Or.inl (hw _ (List.mem_of_getElem? (i := 22) rfl))) (hw _ (List.mem_of_getElem? (i := 1) rfl)) (ty := (.object "com/example/rowan/rowan/Node")) (by decide) rfl rfl (g := (mkF m 209 #[.val (.int p0), .val (.int p1), .val (.int p2), .val (.int (4 : Int32)), .val (.int r0), .val (.int r1), .val (.int r2), .val (.int r3), .val (.int hg), .val (.int dr), .val (.ref b7), .val (.ref b9), .val (.ref b11), .val (.ref b13), .val (.ref b15), .unset, .unset] [(.ref b13), (.ref b11)])) rfl rfl (hb hby at_209)
                replace E_b7 := E_b7.wr W106
                replace F_left_b7 := F_left_b7.other W106 (Or.inl ne_b7_b11)
                replace F_right_b7 := F_right_b7.other W106 (Or.inl ne_b7_b11)
                replace F_red_b7 := F_red_b7.other W106 (Or.inl ne_b7_b11)
                replace E_b9 := E_b9.wr W106
                replace F_left_b9 := F_left_b9.other W106 (Or.inl ne_b9_b11)
                replace F_right_b9 := F_right_b9.other W106 (Or.inl ne_b9_b11)
                replace F_red_b9 := F_red_b9.other W106 (Or.inl ne_b9_b11)
                replace E_b11 := E_b11.wr W106
                replace F_left_b11 := F_left_b11.same W106
                replace F_right_b11 := F_right_b11.other W106 (Or.inr (slot_ne (Or.inl (hw _ (List.mem_of_getElem? (i := 20) rfl))) (Or.inl (hw _ (List.mem_of_getElem? (i := 22) rfl))) (by decide) (t := (.object "com/example/rowan/rowan/Node")) (t' := (.object "com/example/rowan/rowan/Node")) (by decide) (by decide)))
                replace F_red_b11 := F_red_b11.other W106 (Or.inr (slot_ne (Or.inl (hw _ (List.mem_of_getElem? (i := 14) rfl))) (Or.inl (hw _ (List.mem_of_getElem? (i := 22) rfl))) (by decide) (t := .boolean) (t' := (.object "com/example/rowan/rowan/Node")) (by decide) (by decide)))
                replace E_b13 := E_b13.wr W106
                replace F_left_b13 := F_left_b13.other W106 (Or.inl (Ne.symm ne_b11_b13))
                replace F_right_b13 := F_right_b13.other W106 (Or.inl (Ne.symm ne_b11_b13))
                replace F_red_b13 := F_red_b13.other W106 (Or.inl (Ne.symm ne_b11_b13))
                replace E_b15 := E_b15.wr W106
                replace F_left_b15 := F_left_b15.other W106 (Or.inl (Ne.symm ne_b11_b15))
                replace F_right_b15 := F_right_b15.other W106 (Or.inl (Ne.symm ne_b11_b15))
                replace F_red_b15 := F_red_b15.other W106 (Or.inl (Ne.symm ne_b11_b15))
                have Zs_W106 : n0 ≤ _ := Nat.le_trans Zs_W104 (Keep.of_wr W106).1
                have N106 := Fr.snoc X106 N104 g_b11
                refine own_via st106 ?_
                show OwnEnds p.tables e below _ (T106.setTop (mkF m 212 #[.val (.int p0), .val (.int p1), .val (.int p2), .val (.int (4 : Int32)), .val (.int r0), .val (.int r1), .val (.int r2), .val (.int r3), .val (.int hg), .val (.int dr), .val (.ref b7), .val (.ref b9), .val (.ref b11), .val (.ref b13), .val (.ref b15), .unset, .unset] []))
                refine own_via (fun t k => XS.iload X106.here hx rfl (hb hby at_212) rfl k) ?_
                show OwnEnds p.tables e below _ (T106.setTop (mkF m 214 #[.val (.int p0), .val (.int p1), .val (.int p2), .val (.int (4 : Int32)), .val (.int r0), .val (.int r1), .val (.int r2), .val (.int r3), .val (.int hg), .val (.int dr), .val (.ref b7), .val (.ref b9), .val (.ref b11), .val (.ref b13), .val (.ref b15), .unset, .unset] [(.int hg)]))
                have J245_107 : ∀ (TJ245_107 : State) (hJ245_107 : Heap) (locsJ245_107 : List Loc), Stand p l e room_1 s m #[(.int p0), (.int p1), (.int p2)] below meth c TJ245_107 locsJ245_107 5 35 → TJ245_107.heap = hJ245_107 → Fr n0 locsJ245_107 → n0 ≤ hJ245_107.size → Exa Z hJ245_107 b7 "com/example/rowan/rowan/Node" → Fld Z hJ245_107 b7 "com/example/rowan/rowan/Node" "left" "Lcom/example/rowan/rowan/Node;" (.ref b9) → Fld Z hJ245_107 b7 "com/example/rowan/rowan/Node" "red" "Z" (.int r0) → Exa Z hJ245_107 b9 "com/example/rowan/rowan/Node" → Fld Z hJ245_107 b9 "com/example/rowan/rowan/Node" "left" "Lcom/example/rowan/rowan/Node;" (.ref b11) → Fld Z hJ245_107 b9 "com/example/rowan/rowan/Node" "red" "Z" (.int r1) → Exa Z hJ245_107 b11 "com/example/rowan/rowan/Node" → Fld Z hJ245_107 b11 "com/example/rowan/rowan/Node" "left" "Lcom/example/rowan/rowan/Node;" (.ref b13) → Fld Z hJ245_107 b11 "com/example/rowan/rowan/Node" "red" "Z" (.int r2) → Exa Z hJ245_107 b13 "com/example/rowan/rowan/Node" → Fld Z hJ245_107 b13 "com/example/rowan/rowan/Node" "left" "Lcom/example/rowan/rowan/Node;" .null → Fld Z hJ245_107 b13 "com/example/rowan/rowan/Node" "red" "Z" (.int r3) → Exa Z hJ245_107 b15 "com/example/rowan/rowan/Node" → Fld Z hJ245_107 b15 "com/example/rowan/rowan/Node" "left" "Lcom/example/rowan/rowan/Node;" .null → Fld Z hJ245_107 b15 "com/example/rowan/rowan/Node" "red" "Z" (.int dr) → OwnEnds p.tables e below (OwnQ s 24 192 (Q0 Z p0 p1 p2 h0 n0)) (TJ245_107.setTop (mkF m 245 #[.val (.int p0), .val (.int p1), .val (.int p2), .val (.int (4 : Int32)), .val (.int r0), .val (.int r1), .val (.int r2), .val (.int r3), .val (.int hg), .val (.int dr), .val (.ref b7), .val (.ref b9), .val (.ref b11), .val (.ref b13), .val (.ref b15), .unset, .unset] [])) := by
                  intro TJ245_107 hJ245_107 locsJ245_107 XJ245_107 eJ245_107 NJ245_107 ZsJ245_107 E_b7 F_left_b7 F_red_b7 E_b9 F_left_b9 F_red_b9 E_b11 F_left_b11 F_red_b11 E_b13 F_left_b13 F_red_b13 E_b15 F_left_b15 F_red_b15
                  refine own_via (fun t k => XS.iloadN XJ245_107.here hx rfl (hb hby at_245) rfl k) ?_
                  show OwnEnds p.tables e below _ (TJ245_107.setTop (mkF m 246 #[.val (.int p0), .val (.int p1), .val (.int p2), .val (.int (4 : Int32)), .val (.int r0), .val (.int r1), .val (.int r2), .val (.int r3), .val (.int hg), .val (.int dr), .val (.ref b7), .val (.ref b9), .val (.ref b11), .val (.ref b13), .val (.ref b15), .unset, .unset] [(.int (4 : Int32))]))
                  have hc246_108 : ¬ ((4 : Int32) = (0 : Int32)) := by decide
                  refine own_via (fun t k => XS.ifYes XJ245_107.here hx rfl (pc0 := 246) (pc' := 253) rfl (hb hby at_246) rfl ((if0 _ _).trans (feq hc246_108).2) (by decide) (by decide) k) ?_
                  show OwnEnds p.tables e below _ (TJ245_107.setTop (mkF m 253 #[.val (.int p0), .val (.int p1), .val (.int p2), .val (.int (4 : Int32)), .val (.int r0), .val (.int r1), .val (.int r2), .val (.int r3), .val (.int hg), .val (.int dr), .val (.ref b7), .val (.ref b9), .val (.ref b11), .val (.ref b13), .val (.ref b15), .unset, .unset] []))
                  refine own_via (fun t k => XS.aload XJ245_107.here hx rfl (hb hby at_253) rfl rfl k) ?_
                  show OwnEnds p.tables e below _ (TJ245_107.setTop (mkF m 255 #[.val (.int p0), .val (.int p1), .val (.int p2), .val (.int (4 : Int32)), .val (.int r0), .val (.int r1), .val (.int r2), .val (.int r3), .val (.int hg), .val (.int dr), .val (.ref b7), .val (.ref b9), .val (.ref b11), .val (.ref b13), .val (.ref b15), .unset, .unset] [(.ref b7)]))
                  refine own_via (fun t k => XS.astore XJ245_107.here hx rfl (hb hby at_255) rfl rfl (l' := #[.val (.int p0), .val (.int p1), .val (.int p2), .val (.int (4 : Int32)), .val (.int r0), .val (.int r1), .val (.int r2), .val (.int r3), .val (.int hg), .val (.int dr), .val (.ref b7), .val (.ref b9), .val (.ref b11), .val (.ref b13), .val (.ref b15), .val (.ref b7), .unset]) rfl k) ?_
                  show OwnEnds p.tables e below _ (TJ245_107.setTop (mkF m 257 #[.val (.int p0), .val (.int p1), .val (.int p2), .val (.int (4 : Int32)), .val (.int r0), .val (.int r1), .val (.int r2), .val (.int r3), .val (.int hg), .val (.int dr), .val (.ref b7), .val (.ref b9), .val (.ref b11), .val (.ref b13), .val (.ref b15), .val (.ref b7), .unset] []))
                  refine own_via (fun t k => XS.iconst XJ245_107.here hx rfl (hb hby at_257) k) ?_
                  show OwnEnds p.tables e below _ (TJ245_107.setTop (mkF m 258 #[.val (.int p0), .val (.int p1), .val (.int p2), .val (.int (4 : Int32)), .val (.int r0), .val (.int r1), .val (.int r2), .val (.int r3), .val (.int hg), .val (.int dr), .val (.ref b7), .val (.ref b9), .val (.ref b11), .val (.ref b13), .val (.ref b15), .val (.ref b7), .unset] [(.int (0 : Int32))]))
                  refine own_via (fun t k => XS.istore XJ245_107.here hx rfl (hb hby at_258) rfl (l' := #[.val (.int p0), .val (.int p1), .val (.int p2), .val (.int (4 : Int32)), .val (.int r0), .val (.int r1), .val (.int r2), .val (.int r3), .val (.int hg), .val (.int dr), .val (.ref b7), .val (.ref b9), .val (.ref b11), .val (.ref b13), .val (.ref b15), .val (.ref b7), .val (.int (0 : Int32))]) rfl k) ?_
                  show OwnEnds p.tables e below _ (TJ245_107.setTop (mkF m 260 #[.val (.int p0), .val (.int p1), .val (.int p2), .val (.int (4 : Int32)), .val (.int r0), .val (.int r1), .val (.int r2), .val (.int r3), .val (.int hg), .val (.int dr), .val (.ref b7), .val (.ref b9), .val (.ref b11), .val (.ref b13), .val (.ref b15), .val (.ref b7), .val (.int (0 : Int32))] []))
                  refine own_via (fun t k => XS.iloadN XJ245_107.here hx rfl (hb hby at_260) rfl k) ?_
                  show OwnEnds p.tables e below _ (TJ245_107.setTop (mkF m 261 #[.val (.int p0), .val (.int p1), .val (.int p2), .val (.int (4 : Int32)), .val (.int r0), .val (.int r1), .val (.int r2), .val (.int r3), .val (.int hg), .val (.int dr), .val (.ref b7), .val (.ref b9), .val (.ref b11), .val (.ref b13), .val (.ref b15), .val (.ref b7), .val (.int (0 : Int32))] [(.int (4 : Int32))]))
                  refine own_via (fun t k => XS.iconst XJ245_107.here hx rfl (hb hby at_261) k) ?_
                  show OwnEnds p.tables e below _ (TJ245_107.setTop (mkF m 262 #[.val (.int p0), .val (.int p1), .val (.int p2), .val (.int (4 : Int32)), .val (.int r0), .val (.int r1), .val (.int r2), .val (.int r3), .val (.int hg), .val (.int dr), .val (.ref b7), .val (.ref b9), .val (.ref b11), .val (.ref b13), .val (.ref b15), .val (.ref b7), .val (.int (0 : Int32))] [(.int (1 : Int32)), (.int (4 : Int32))]))
                  have hc262_109 : ¬ ((4 : Int32) < (1 : Int32)) := by decide
                  refine own_via (fun t k => XS.icmpNo XJ245_107.here hx rfl (hb hby at_262) rfl (flt hc262_109).1 k) ?_
                  show OwnEnds p.tables e below _ (TJ245_107.setTop (mkF m 265 #[.val (.int p0), .val (.int p1), .val (.int p2), .val (.int (4 : Int32)), .val (.int r0), .val (.int r1), .val (.int r2), .val (.int r3), .val (.int hg), .val (.int dr), .val (.ref b7), .val (.ref b9), .val (.ref b11), .val (.ref b13), .val (.ref b15), .val (.ref b7), .val (.int (0 : Int32))] []))
                  refine own_via (fun t k => XS.iload XJ245_107.here hx rfl (hb hby at_265) rfl k) ?_
                  show OwnEnds p.tables e below _ (TJ245_107.setTop (mkF m 267 #[.val (.int p0), .val (.int p1), .val (.int p2), .val (.int (4 : Int32)), .val (.int r0), .val (.int r1), .val (.int r2), .val (.int r3), .val (.int hg), .val (.int dr), .val (.ref b7), .val (.ref b9), .val (.ref b11), .val (.ref b13), .val (.ref b15), .val (.ref b7), .val (.int (0 : Int32))] [(.int r0)]))
                  have J273_110 : ∀ ev1 : Int32, ev1 = (if r0 = (0 : Int32) then (1 : Int32) else (0 : Int32)) → OwnEnds p.tables e below (OwnQ s 24 192 (Q0 Z p0 p1 p2 h0 n0)) (TJ245_107.setTop (mkF m 273 #[.val (.int p0), .val (.int p1), .val (.int p2), .val (.int (4 : Int32)), .val (.int r0), .val (.int r1), .val (.int r2), .val (.int r3), .val (.int hg), .val (.int dr), .val (.ref b7), .val (.ref b9), .val (.ref b11), .val (.ref b13), .val (.ref b15), .val (.ref b7), .val (.int ev1)] [])) := by
                    intro ev1 h_ev1
                    refine own_via (fun t k => XS.iloadN XJ245_107.here hx rfl (hb hby at_273) rfl k) ?_
                    show OwnEnds p.tables e below _ (TJ245_107.setTop (mkF m 274 #[.val (.int p0), .val (.int p1), .val (.int p2), .val (.int (4 : Int32)), .val (.int r0), .val (.int r1), .val (.int r2), .val (.int r3), .val (.int hg), .val (.int dr), .val (.ref b7), .val (.ref b9), .val (.ref b11), .val (.ref b13), .val (.ref b15), .val (.ref b7), .val (.int ev1)] [(.int (4 : Int32))]))
                    refine own_via (fun t k => XS.iconst XJ245_107.here hx rfl (hb hby at_274) k) ?_
                    show OwnEnds p.tables e below _ (TJ245_107.setTop (mkF m 275 #[.val (.int p0), .val (.int p1), .val (.int p2), .val (.int (4 : Int32)), .val (.int r0), .val (.int r1), .val (.int r2), .val (.int r3), .val (.int hg), .val (.int dr), .val (.ref b7), .val (.ref b9), .val (.ref b11), .val (.ref b13), .val (.ref b15), .val (.ref b7), .val (.int ev1)] [(.int (2 : Int32)), (.int (4 : Int32))]))
                    have hc275_111 : ¬ ((4 : Int32) < (2 : Int32)) := by decide
                    refine own_via (fun t k => XS.icmpNo XJ245_107.here hx rfl (hb hby at_275) rfl (flt hc275_111).1 k) ?_
                    show OwnEnds p.tables e below _ (TJ245_107.setTop (mkF m 278 #[.val (.int p0), .val (.int p1), .val (.int p2), .val (.int (4 : Int32)), .val (.int r0), .val (.int r1), .val (.int r2), .val (.int r3), .val (.int hg), .val (.int dr), .val (.ref b7), .val (.ref b9), .val (.ref b11), .val (.ref b13), .val (.ref b15), .val (.ref b7), .val (.int ev1)] []))
                    refine own_via (fun t k => XS.iload XJ245_107.here hx rfl (hb hby at_278) rfl k) ?_
                    show OwnEnds p.tables e below _ (TJ245_107.setTop (mkF m 280 #[.val (.int p0), .val (.int p1), .val (.int p2), .val (.int (4 : Int32)), .val (.int r0), .val (.int r1), .val (.int r2), .val (.int r3), .val (.int hg), .val (.int dr), .val (.ref b7), .val (.ref b9), .val (.ref b11), .val (.ref b13), .val (.ref b15), .val (.ref b7), .val (.int ev1)] [(.int r1)]))
                    have J286_112 : ∀ ev2 : Int32, ev2 = (if r1 = (0 : Int32) then (ev1 + (1 : Int32)) else ev1) → OwnEnds p.tables e below (OwnQ s 24 192 (Q0 Z p0 p1 p2 h0 n0)) (TJ245_107.setTop (mkF m 286 #[.val (.int p0), .val (.int p1), .val (.int p2), .val (.int (4 : Int32)), .val (.int r0), .val (.int r1), .val (.int r2), .val (.int r3), .val (.int hg), .val (.int dr), .val (.ref b7), .val (.ref b9), .val (.ref b11), .val (.ref b13), .val (.ref b15), .val (.ref b7), .val (.int ev2)] [])) := by
                      intro ev2 h_ev2
                      refine own_via (fun t k => XS.iloadN XJ245_107.here hx rfl (hb hby at_286) rfl k) ?_
                      show OwnEnds p.tables e below _ (TJ245_107.setTop (mkF m 287 #[.val (.int p0), .val (.int p1), .val (.int p2), .val (.int (4 : Int32)), .val (.int r0), .val (.int r1), .val (.int r2), .val (.int r3), .val (.int hg), .val (.int dr), .val (.ref b7), .val (.ref b9), .val (.ref b11), .val (.ref b13), .val (.ref b15), .val (.ref b7), .val (.int ev2)] [(.int (4 : Int32))]))
                      refine own_via (fun t k => XS.iconst XJ245_107.here hx rfl (hb hby at_287) k) ?_
                      show OwnEnds p.tables e below _ (TJ245_107.setTop (mkF m 288 #[.val (.int p0), .val (.int p1), .val (.int p2), .val (.int (4 : Int32)), .val (.int r0), .val (.int r1), .val (.int r2), .val (.int r3), .val (.int hg), .val (.int dr), .val (.ref b7), .val (.ref b9), .val (.ref b11), .val (.ref b13), .val (.ref b15), .val (.ref b7), .val (.int ev2)] [(.int (3 : Int32)), (.int (4 : Int32))]))
                      have hc288_113 : ¬ ((4 : Int32) < (3 : Int32)) := by decide
                      refine own_via (fun t k => XS.icmpNo XJ245_107.here hx rfl (hb hby at_288) rfl (flt hc288_113).1 k) ?_
                      show OwnEnds p.tables e below _ (TJ245_107.setTop (mkF m 291 #[.val (.int p0), .val (.int p1), .val (.int p2), .val (.int (4 : Int32)), .val (.int r0), .val (.int r1), .val (.int r2), .val (.int r3), .val (.int hg), .val (.int dr), .val (.ref b7), .val (.ref b9), .val (.ref b11), .val (.ref b13), .val (.ref b15), .val (.ref b7), .val (.int ev2)] []))
                      refine own_via (fun t k => XS.iload XJ245_107.here hx rfl (hb hby at_291) rfl k) ?_
                      show OwnEnds p.tables e below _ (TJ245_107.setTop (mkF m 293 #[.val (.int p0), .val (.int p1), .val (.int p2), .val (.int (4 : Int32)), .val (.int r0), .val (.int r1), .val (.int r2), .val (.int r3), .val (.int hg), .val (.int dr), .val (.ref b7), .val (.ref b9), .val (.ref b11), .val (.ref b13), .val (.ref b15), .val (.ref b7), .val (.int ev2)] [(.int r2)]))
                      have J299_114 : ∀ ev3 : Int32, ev3 = (if r2 = (0 : Int32) then (ev2 + (1 : Int32)) else ev2) → OwnEnds p.tables e below (OwnQ s 24 192 (Q0 Z p0 p1 p2 h0 n0)) (TJ245_107.setTop (mkF m 299 #[.val (.int p0), .val (.int p1), .val (.int p2), .val (.int (4 : Int32)), .val (.int r0), .val (.int r1), .val (.int r2), .val (.int r3), .val (.int hg), .val (.int dr), .val (.ref b7), .val (.ref b9), .val (.ref b11), .val (.ref b13), .val (.ref b15), .val (.ref b7), .val (.int ev3)] [])) := by
                        intro ev3 h_ev3
                        refine own_via (fun t k => XS.iloadN XJ245_107.here hx rfl (hb hby at_299) rfl k) ?_
                        show OwnEnds p.tables e below _ (TJ245_107.setTop (mkF m 300 #[.val (.int p0), .val (.int p1), .val (.int p2), .val (.int (4 : Int32)), .val (.int r0), .val (.int r1), .val (.int r2), .val (.int r3), .val (.int hg), .val (.int dr), .val (.ref b7), .val (.ref b9), .val (.ref b11), .val (.ref b13), .val (.ref b15), .val (.ref b7), .val (.int ev3)] [(.int (4 : Int32))]))
                        refine own_via (fun t k => XS.iconst XJ245_107.here hx rfl (hb hby at_300) k) ?_
                        show OwnEnds p.tables e below _ (TJ245_107.setTop (mkF m 301 #[.val (.int p0), .val (.int p1), .val (.int p2), .val (.int (4 : Int32)), .val (.int r0), .val (.int r1), .val (.int r2), .val (.int r3), .val (.int hg), .val (.int dr), .val (.ref b7), .val (.ref b9), .val (.ref b11), .val (.ref b13), .val (.ref b15), .val (.ref b7), .val (.int ev3)] [(.int (4 : Int32)), (.int (4 : Int32))]))
                        have hc301_115 : ¬ ((4 : Int32) < (4 : Int32)) := by decide
                        refine own_via (fun t k => XS.icmpNo XJ245_107.here hx rfl (hb hby at_301) rfl (flt hc301_115).1 k) ?_
                        show OwnEnds p.tables e below _ (TJ245_107.setTop (mkF m 304 #[.val (.int p0), .val (.int p1), .val (.int p2), .val (.int (4 : Int32)), .val (.int r0), .val (.int r1), .val (.int r2), .val (.int r3), .val (.int hg), .val (.int dr), .val (.ref b7), .val (.ref b9), .val (.ref b11), .val (.ref b13), .val (.ref b15), .val (.ref b7), .val (.int ev3)] []))
                        refine own_via (fun t k => XS.iload XJ245_107.here hx rfl (hb hby at_304) rfl k) ?_
                        show OwnEnds p.tables e below _ (TJ245_107.setTop (mkF m 306 #[.val (.int p0), .val (.int p1), .val (.int p2), .val (.int (4 : Int32)), .val (.int r0), .val (.int r1), .val (.int r2), .val (.int r3), .val (.int hg), .val (.int dr), .val (.ref b7), .val (.ref b9), .val (.ref b11), .val (.ref b13), .val (.ref b15), .val (.ref b7), .val (.int ev3)] [(.int r3)]))
                        have J312_116 : ∀ ev4 : Int32, ev4 = (if r3 = (0 : Int32) then (ev3 + (1 : Int32)) else ev3) → OwnEnds p.tables e below (OwnQ s 24 192 (Q0 Z p0 p1 p2 h0 n0)) (TJ245_107.setTop (mkF m 312 #[.val (.int p0), .val (.int p1), .val (.int p2), .val (.int (4 : Int32)), .val (.int r0), .val (.int r1), .val (.int r2), .val (.int r3), .val (.int hg), .val (.int dr), .val (.ref b7), .val (.ref b9), .val (.ref b11), .val (.ref b13), .val (.ref b15), .val (.ref b7), .val (.int ev4)] [])) := by
                          intro ev4 h_ev4
                          refine own_via (fun t k => XS.aload XJ245_107.here hx rfl (hb hby at_312) rfl rfl k) ?_
                          show OwnEnds p.tables e below _ (TJ245_107.setTop (mkF m 314 #[.val (.int p0), .val (.int p1), .val (.int p2), .val (.int (4 : Int32)), .val (.int r0), .val (.int r1), .val (.int r2), .val (.int r3), .val (.int hg), .val (.int dr), .val (.ref b7), .val (.ref b9), .val (.ref b11), .val (.ref b13), .val (.ref b15), .val (.ref b7), .val (.int ev4)] [(.ref b7)]))
                          obtain ⟨_, _, ⟨T117, L117, k117, n117⟩, -, X117, ⟨Lc117, hQ117, l117, y117, z117⟩, st117⟩ := Jvm.LawKit.callS XJ245_107 hx (y := (⟨"com/example/rowan/rowan/Node", "blackHeight", "(Lcom/example/rowan/rowan/Node;)I"⟩ : MethodName)) hown (mvT hZ (hw _ (List.mem_of_getElem? (i := 16) rfl))) (mvT hZ (hw _ (List.mem_of_getElem? (i := 17) rfl))) (mvT hZ (hw _ (List.mem_of_getElem? (i := 2) rfl))) (mvT hZ (hw _ (List.mem_of_getElem? (i := 18) rfl))) (by decide) (backOf (W := 0) (rm3 l Z aw hw [] (.ref b7) [r0, r1, r2, r3] hJ245_107 n0 ZsJ245_107 ⟨b7, _, rfl, F_red_b7, F_left_b7, ⟨b9, _, rfl, F_red_b9, F_left_b9, ⟨b11, _, rfl, F_red_b11, F_left_b11, ⟨b13, _, rfl, F_red_b13, F_left_b13, (rfl : OwnCh Z hJ245_107 .null [])⟩⟩⟩⟩ rfl) hZ (hw _ (List.mem_of_getElem? (i := 18) rfl)) (hw _ (List.mem_of_getElem? (i := 2) rfl)) (by decide) (by decide)) (g := (mkF m 314 #[.val (.int p0), .val (.int p1), .val (.int p2), .val (.int (4 : Int32)), .val (.int r0), .val (.int r1), .val (.int r2), .val (.int r3), .val (.int hg), .val (.int dr), .val (.ref b7), .val (.ref b9), .val (.ref b11), .val (.ref b13), .val (.ref b15), .val (.ref b7), .val (.int ev4)] [(.ref b7)])) rfl (by rw [hml]; rfl) (argsL := [(.ref b7)]) (rest := []) (lenOf pd_1 rfl) rfl (by show 2 * 0 + _ ≤ _; exact Nat.le_of_eq rfl) (hb hby at_314) (fun _ _ => ⟨rfl, eJ245_107, (by decide : 5 + 0 ≤ _), (by decide : 35 + 0 ≤ _)⟩)
                          dsimp only [Pt.U, Pt.locs, Pt.cells, Pt.slots] at X117 l117 y117 z117 st117 hQ117
                          subst l117 y117 z117
                          obtain ⟨rfl, Nq117, e117⟩ := hQ117
                          have N117 := Fr.app NJ245_107 Nq117
                          replace e117 : T117.heap = hJ245_107 := e117
                          refine own_via st117 ?_
                          show OwnEnds p.tables e below _ (T117.setTop (mkF m 317 #[.val (.int p0), .val (.int p1), .val (.int p2), .val (.int (4 : Int32)), .val (.int r0), .val (.int r1), .val (.int r2), .val (.int r3), .val (.int hg), .val (.int dr), .val (.ref b7), .val (.ref b9), .val (.ref b11), .val (.ref b13), .val (.ref b15), .val (.ref b7), .val (.int ev4)] [(.int (own_bh [r0, r1, r2, r3]))]))
                          refine own_via (fun t k => XS.iload X117.here hx rfl (hb hby at_317) rfl k) ?_
                          show OwnEnds p.tables e below _ (T117.setTop (mkF m 319 #[.val (.int p0), .val (.int p1), .val (.int p2), .val (.int (4 : Int32)), .val (.int r0), .val (.int r1), .val (.int r2), .val (.int r3), .val (.int hg), .val (.int dr), .val (.ref b7), .val (.ref b9), .val (.ref b11), .val (.ref b13), .val (.ref b15), .val (.ref b7), .val (.int ev4)] [(.int ev4), (.int (own_bh [r0, r1, r2, r3]))]))
                          have hc319_118 : (own_bh [r0, r1, r2, r3]) = ev4 := own_b4 h_ev1 h_ev2 h_ev3 h_ev4
                          refine own_via (fun t k => XS.icmpNo X117.here hx rfl (hb hby at_319) rfl (teq hc319_118).2 k) ?_
                          show OwnEnds p.tables e below _ (T117.setTop (mkF m 322 #[.val (.int p0), .val (.int p1), .val (.int p2), .val (.int (4 : Int32)), .val (.int r0), .val (.int r1), .val (.int r2), .val (.int r3), .val (.int hg), .val (.int dr), .val (.ref b7), .val (.ref b9), .val (.ref b11), .val (.ref b13), .val (.ref b15), .val (.ref b7), .val (.int ev4)] []))
                          refine own_via (fun t k => XS.iconst X117.here hx rfl (hb hby at_322) k) ?_
                          show OwnEnds p.tables e below _ (T117.setTop (mkF m 323 #[.val (.int p0), .val (.int p1), .val (.int p2), .val (.int (4 : Int32)), .val (.int r0), .val (.int r1), .val (.int r2), .val (.int r3), .val (.int hg), .val (.int dr), .val (.ref b7), .val (.ref b9), .val (.ref b11), .val (.ref b13), .val (.ref b15), .val (.ref b7), .val (.int ev4)] [(.int (1 : Int32))]))
                          refine own_via (fun t k => XS.goto X117.here hx rfl (pc0 := 323) (pc' := 327) rfl (hb hby at_323) (by decide) (by decide) k) ?_
                          show OwnEnds p.tables e below _ (T117.setTop (mkF m 327 #[.val (.int p0), .val (.int p1), .val (.int p2), .val (.int (4 : Int32)), .val (.int r0), .val (.int r1), .val (.int r2), .val (.int r3), .val (.int hg), .val (.int dr), .val (.ref b7), .val (.ref b9), .val (.ref b11), .val (.ref b13), .val (.ref b15), .val (.ref b7), .val (.int ev4)] [(.int (1 : Int32))]))
                          refine own_retN (t := .boolean) X117 hx Bd.returns (by simp) hlk (hb hby at_327) ?_ (by decide) (by decide)
                          rw [e117]
                          exact ⟨rfl, N117⟩
                        by_cases hc306_119 : r3 = (0 : Int32)
                        · skip
                          refine own_via (fun t k => XS.ifNo XJ245_107.here hx rfl (hb hby at_306) rfl ((if0 _ _).trans (teq hc306_119).2) k) ?_
                          show OwnEnds p.tables e below _ (TJ245_107.setTop (mkF m 309 #[.val (.int p0), .val (.int p1), .val (.int p2), .val (.int (4 : Int32)), .val (.int r0), .val (.int r1), .val (.int r2), .val (.int r3), .val (.int hg), .val (.int dr), .val (.ref b7), .val (.ref b9), .val (.ref b11), .val (.ref b13), .val (.ref b15), .val (.ref b7), .val (.int ev3)] []))
                          refine own_via (fun t k => XS.iinc XJ245_107.here hx rfl (hb hby at_309) rfl (l' := #[.val (.int p0), .val (.int p1), .val (.int p2), .val (.int (4 : Int32)), .val (.int r0), .val (.int r1), .val (.int r2), .val (.int r3), .val (.int hg), .val (.int dr), .val (.ref b7), .val (.ref b9), .val (.ref b11), .val (.ref b13), .val (.ref b15), .val (.ref b7), .val (.int (ev3 + (1 : Int32)))]) rfl k) ?_
                          show OwnEnds p.tables e below _ (TJ245_107.setTop (mkF m 312 #[.val (.int p0), .val (.int p1), .val (.int p2), .val (.int (4 : Int32)), .val (.int r0), .val (.int r1), .val (.int r2), .val (.int r3), .val (.int hg), .val (.int dr), .val (.ref b7), .val (.ref b9), .val (.ref b11), .val (.ref b13), .val (.ref b15), .val (.ref b7), .val (.int (ev3 + (1 : Int32)))] []))
                          exact J312_116 _ (by simp only [if_pos hc306_119])
                        · skip
                          refine own_via (fun t k => XS.ifYes XJ245_107.here hx rfl (pc0 := 306) (pc' := 312) rfl (hb hby at_306) rfl ((if0 _ _).trans (feq hc306_119).2) (by decide) (by decide) k) ?_
                          show OwnEnds p.tables e below _ (TJ245_107.setTop (mkF m 312 #[.val (.int p0), .val (.int p1), .val (.int p2), .val (.int (4 : Int32)), .val (.int r0), .val (.int r1), .val (.int r2), .val (.int r3), .val (.int hg), .val (.int dr), .val (.ref b7), .val (.ref b9), .val (.ref b11), .val (.ref b13), .val (.ref b15), .val (.ref b7), .val (.int ev3)] []))
                          exact J312_116 _ (by simp only [if_neg hc306_119])
                      by_cases hc293_120 : r2 = (0 : Int32)
                      · skip
                        refine own_via (fun t k => XS.ifNo XJ245_107.here hx rfl (hb hby at_293) rfl ((if0 _ _).trans (teq hc293_120).2) k) ?_
                        show OwnEnds p.tables e below _ (TJ245_107.setTop (mkF m 296 #[.val (.int p0), .val (.int p1), .val (.int p2), .val (.int (4 : Int32)), .val (.int r0), .val (.int r1), .val (.int r2), .val (.int r3), .val (.int hg), .val (.int dr), .val (.ref b7), .val (.ref b9), .val (.ref b11), .val (.ref b13), .val (.ref b15), .val (.ref b7), .val (.int ev2)] []))
                        refine own_via (fun t k => XS.iinc XJ245_107.here hx rfl (hb hby at_296) rfl (l' := #[.val (.int p0), .val (.int p1), .val (.int p2), .val (.int (4 : Int32)), .val (.int r0), .val (.int r1), .val (.int r2), .val (.int r3), .val (.int hg), .val (.int dr), .val (.ref b7), .val (.ref b9), .val (.ref b11), .val (.ref b13), .val (.ref b15), .val (.ref b7), .val (.int (ev2 + (1 : Int32)))]) rfl k) ?_
                        show OwnEnds p.tables e below _ (TJ245_107.setTop (mkF m 299 #[.val (.int p0), .val (.int p1), .val (.int p2), .val (.int (4 : Int32)), .val (.int r0), .val (.int r1), .val (.int r2), .val (.int r3), .val (.int hg), .val (.int dr), .val (.ref b7), .val (.ref b9), .val (.ref b11), .val (.ref b13), .val (.ref b15), .val (.ref b7), .val (.int (ev2 + (1 : Int32)))] []))
                        exact J299_114 _ (by simp only [if_pos hc293_120])
                      · skip
                        refine own_via (fun t k => XS.ifYes XJ245_107.here hx rfl (pc0 := 293) (pc' := 299) rfl (hb hby at_293) rfl ((if0 _ _).trans (feq hc293_120).2) (by decide) (by decide) k) ?_
                        show OwnEnds p.tables e below _ (TJ245_107.setTop (mkF m 299 #[.val (.int p0), .val (.int p1), .val (.int p2), .val (.int (4 : Int32)), .val (.int r0), .val (.int r1), .val (.int r2), .val (.int r3), .val (.int hg), .val (.int dr), .val (.ref b7), .val (.ref b9), .val (.ref b11), .val (.ref b13), .val (.ref b15), .val (.ref b7), .val (.int ev2)] []))
                        exact J299_114 _ (by simp only [if_neg hc293_120])
                    by_cases hc280_121 : r1 = (0 : Int32)
                    · skip
                      refine own_via (fun t k => XS.ifNo XJ245_107.here hx rfl (hb hby at_280) rfl ((if0 _ _).trans (teq hc280_121).2) k) ?_
                      show OwnEnds p.tables e below _ (TJ245_107.setTop (mkF m 283 #[.val (.int p0), .val (.int p1), .val (.int p2), .val (.int (4 : Int32)), .val (.int r0), .val (.int r1), .val (.int r2), .val (.int r3), .val (.int hg), .val (.int dr), .val (.ref b7), .val (.ref b9), .val (.ref b11), .val (.ref b13), .val (.ref b15), .val (.ref b7), .val (.int ev1)] []))
                      refine own_via (fun t k => XS.iinc XJ245_107.here hx rfl (hb hby at_283) rfl (l' := #[.val (.int p0), .val (.int p1), .val (.int p2), .val (.int (4 : Int32)), .val (.int r0), .val (.int r1), .val (.int r2), .val (.int r3), .val (.int hg), .val (.int dr), .val (.ref b7), .val (.ref b9), .val (.ref b11), .val (.ref b13), .val (.ref b15), .val (.ref b7), .val (.int (ev1 + (1 : Int32)))]) rfl k) ?_
                      show OwnEnds p.tables e below _ (TJ245_107.setTop (mkF m 286 #[.val (.int p0), .val (.int p1), .val (.int p2), .val (.int (4 : Int32)), .val (.int r0), .val (.int r1), .val (.int r2), .val (.int r3), .val (.int hg), .val (.int dr), .val (.ref b7), .val (.ref b9), .val (.ref b11), .val (.ref b13), .val (.ref b15), .val (.ref b7), .val (.int (ev1 + (1 : Int32)))] []))
                      exact J286_112 _ (by simp only [if_pos hc280_121])
                    · skip
                      refine own_via (fun t k => XS.ifYes XJ245_107.here hx rfl (pc0 := 280) (pc' := 286) rfl (hb hby at_280) rfl ((if0 _ _).trans (feq hc280_121).2) (by decide) (by decide) k) ?_
                      show OwnEnds p.tables e below _ (TJ245_107.setTop (mkF m 286 #[.val (.int p0), .val (.int p1), .val (.int p2), .val (.int (4 : Int32)), .val (.int r0), .val (.int r1), .val (.int r2), .val (.int r3), .val (.int hg), .val (.int dr), .val (.ref b7), .val (.ref b9), .val (.ref b11), .val (.ref b13), .val (.ref b15), .val (.ref b7), .val (.int ev1)] []))
                      exact J286_112 _ (by simp only [if_neg hc280_121])
                  by_cases hc267_122 : r0 = (0 : Int32)
                  · skip
                    refine own_via (fun t k => XS.ifNo XJ245_107.here hx rfl (hb hby at_267) rfl ((if0 _ _).trans (teq hc267_122).2) k) ?_
                    show OwnEnds p.tables e below _ (TJ245_107.setTop (mkF m 270 #[.val (.int p0), .val (.int p1), .val (.int p2), .val (.int (4 : Int32)), .val (.int r0), .val (.int r1), .val (.int r2), .val (.int r3), .val (.int hg), .val (.int dr), .val (.ref b7), .val (.ref b9), .val (.ref b11), .val (.ref b13), .val (.ref b15), .val (.ref b7), .val (.int (0 : Int32))] []))
                    refine own_via (fun t k => XS.iinc XJ245_107.here hx rfl (hb hby at_270) rfl (l' := #[.val (.int p0), .val (.int p1), .val (.int p2), .val (.int (4 : Int32)), .val (.int r0), .val (.int r1), .val (.int r2), .val (.int r3), .val (.int hg), .val (.int dr), .val (.ref b7), .val (.ref b9), .val (.ref b11), .val (.ref b13), .val (.ref b15), .val (.ref b7), .val (.int (1 : Int32))]) rfl k) ?_
                    show OwnEnds p.tables e below _ (TJ245_107.setTop (mkF m 273 #[.val (.int p0), .val (.int p1), .val (.int p2), .val (.int (4 : Int32)), .val (.int r0), .val (.int r1), .val (.int r2), .val (.int r3), .val (.int hg), .val (.int dr), .val (.ref b7), .val (.ref b9), .val (.ref b11), .val (.ref b13), .val (.ref b15), .val (.ref b7), .val (.int (1 : Int32))] []))
                    exact J273_110 _ (by simp only [if_pos hc267_122])
                  · skip
                    refine own_via (fun t k => XS.ifYes XJ245_107.here hx rfl (pc0 := 267) (pc' := 273) rfl (hb hby at_267) rfl ((if0 _ _).trans (feq hc267_122).2) (by decide) (by decide) k) ?_
                    show OwnEnds p.tables e below _ (TJ245_107.setTop (mkF m 273 #[.val (.int p0), .val (.int p1), .val (.int p2), .val (.int (4 : Int32)), .val (.int r0), .val (.int r1), .val (.int r2), .val (.int r3), .val (.int hg), .val (.int dr), .val (.ref b7), .val (.ref b9), .val (.ref b11), .val (.ref b13), .val (.ref b15), .val (.ref b7), .val (.int (0 : Int32))] []))
                    exact J273_110 _ (by simp only [if_neg hc267_122])
                by_cases hc214_123 : hg = (0 : Int32)
                · skip
                  refine own_via (fun t k => XS.ifYes X106.here hx rfl (pc0 := 214) (pc' := 245) rfl (hb hby at_214) rfl ((if0 _ _).trans (teq hc214_123).1) (by decide) (by decide) k) ?_
                  show OwnEnds p.tables e below _ (T106.setTop (mkF m 245 #[.val (.int p0), .val (.int p1), .val (.int p2), .val (.int (4 : Int32)), .val (.int r0), .val (.int r1), .val (.int r2), .val (.int r3), .val (.int hg), .val (.int dr), .val (.ref b7), .val (.ref b9), .val (.ref b11), .val (.ref b13), .val (.ref b15), .unset, .unset] []))
                  exact J245_107 _ _ _ (own_wide X106 (by decide) (by decide)) e106 N106 Zs_W106 E_b7 F_left_b7 F_red_b7 E_b9 F_left_b9 F_red_b9 E_b11 F_left_b11 F_red_b11 E_b13 F_left_b13 F_red_b13 E_b15 F_left_b15 F_red_b15
                · skip
                  refine own_via (fun t k => XS.ifNo X106.here hx rfl (hb hby at_214) rfl ((if0 _ _).trans (feq hc214_123).1) k) ?_
                  show OwnEnds p.tables e below _ (T106.setTop (mkF m 217 #[.val (.int p0), .val (.int p1), .val (.int p2), .val (.int (4 : Int32)), .val (.int r0), .val (.int r1), .val (.int r2), .val (.int r3), .val (.int hg), .val (.int dr), .val (.ref b7), .val (.ref b9), .val (.ref b11), .val (.ref b13), .val (.ref b15), .unset, .unset] []))
                  refine own_via (fun t k => XS.aload X106.here hx rfl (hb hby at_217) rfl rfl k) ?_
                  show OwnEnds p.tables e below _ (T106.setTop (mkF m 219 #[.val (.int p0), .val (.int p1), .val (.int p2), .val (.int (4 : Int32)), .val (.int r0), .val (.int r1), .val (.int r2), .val (.int r3), .val (.int hg), .val (.int dr), .val (.ref b7), .val (.ref b9), .val (.ref b11), .val (.ref b13), .val (.ref b15), .unset, .unset] [(.ref b7)]))
                  refine own_via (fun t k => XS.aload X106.here hx rfl (hb hby at_219) rfl rfl k) ?_
                  show OwnEnds p.tables e below _ (T106.setTop (mkF m 221 #[.val (.int p0), .val (.int p1), .val (.int p2), .val (.int (4 : Int32)), .val (.int r0), .val (.int r1), .val (.int r2), .val (.int r3), .val (.int hg), .val (.int dr), .val (.ref b7), .val (.ref b9), .val (.ref b11), .val (.ref b13), .val (.ref b15), .unset, .unset] [(.ref b15), (.ref b7)]))
                  obtain ⟨T124, h124, X124, e124, W124, st124⟩ := putF X106 hx hZ hown (host := "") (Or.inl (hw _ (List.mem_of_getElem? (i := 19) rfl))) Via.refl e106 F_right_b7 E_b7 (Or.inl (hw _ (List.mem_of_getElem? (i := 20) rfl))) (hw _ (List.mem_of_getElem? (i := 1) rfl)) (ty := (.object "com/example/rowan/rowan/Node")) (by decide) rfl rfl (g := (mkF m 221 #[.val (.int p0), .val (.int p1), .val (.int p2), .val (.int (4 : Int32)), .val (.int r0), .val (.int r1), .val (.int r2), .val (.int r3), .val (.int hg), .val (.int dr), .val (.ref b7), .val (.ref b9), .val (.ref b11), .val (.ref b13), .val (.ref b15), .unset, .unset] [(.ref b15), (.ref b7)])) rfl rfl (hb hby at_221)
                  replace E_b7 := E_b7.wr W124
                  replace F_left_b7 := F_left_b7.other W124 (Or.inr (slot_ne (Or.inl (hw _ (List.mem_of_getElem? (i := 22) rfl))) (Or.inl (hw _ (List.mem_of_getElem? (i := 20) rfl))) (by decide) (t := (.object "com/example/rowan/rowan/Node")) (t' := (.object "com/example/rowan/rowan/Node")) (by decide) (by decide)))
                  replace F_right_b7 := F_right_b7.same W124
                  replace F_red_b7 := F_red_b7.other W124 (Or.inr (slot_ne (Or.inl (hw _ (List.mem_of_getElem? (i := 14) rfl))) (Or.inl (hw _ (List.mem_of_getElem? (i := 20) rfl))) (by decide) (t := .boolean) (t' := (.object "com/example/rowan/rowan/Node")) (by decide) (by decide)))
                  replace E_b9 := E_b9.wr W124
                  replace F_left_b9 := F_left_b9.other W124 (Or.inl (Ne.symm ne_b7_b9))
                  replace F_right_b9 := F_right_b9.other W124 (Or.inl (Ne.symm ne_b7_b9))
                  replace F_red_b9 := F_red_b9.other W124 (Or.inl (Ne.symm ne_b7_b9))
                  replace E_b11 := E_b11.wr W124
                  replace F_left_b11 := F_left_b11.other W124 (Or.inl (Ne.symm ne_b7_b11))
                  replace F_right_b11 := F_right_b11.other W124 (Or.inl (Ne.symm ne_b7_b11))
                  replace F_red_b11 := F_red_b11.other W124 (Or.inl (Ne.symm ne_b7_b11))
                  replace E_b13 := E_b13.wr W124
                  replace F_left_b13 := F_left_b13.other W124 (Or.inl (Ne.symm ne_b7_b13))
                  replace F_right_b13 := F_right_b13.other W124 (Or.inl (Ne.symm ne_b7_b13))
                  replace F_red_b13 := F_red_b13.other W124 (Or.inl (Ne.symm ne_b7_b13))
                  replace E_b15 := E_b15.wr W124
                  replace F_left_b15 := F_left_b15.other W124 (Or.inl (Ne.symm ne_b7_b15))
                  replace F_right_b15 := F_right_b15.other W124 (Or.inl (Ne.symm ne_b7_b15))
                  replace F_red_b15 := F_red_b15.other W124 (Or.inl (Ne.symm ne_b7_b15))
                  have Zs_W124 : n0 ≤ _ := Nat.le_trans Zs_W106 (Keep.of_wr W124).1
                  have N124 := Fr.snoc X124 N106 g_b7
                  refine own_via st124 ?_
                  show OwnEnds p.tables e below _ (T124.setTop (mkF m 224 #[.val (.int p0), .val (.int p1), .val (.int p2), .val (.int (4 : Int32)), .val (.int r0), .val (.int r1), .val (.int r2), .val (.int r3), .val (.int hg), .val (.int dr), .val (.ref b7), .val (.ref b9), .val (.ref b11), .val (.ref b13), .val (.ref b15), .unset, .unset] []))
                  refine own_via (fun t k => XS.aload X124.here hx rfl (hb hby at_224) rfl rfl k) ?_
                  show OwnEnds p.tables e below _ (T124.setTop (mkF m 226 #[.val (.int p0), .val (.int p1), .val (.int p2), .val (.int (4 : Int32)), .val (.int r0), .val (.int r1), .val (.int r2), .val (.int r3), .val (.int hg), .val (.int dr), .val (.ref b7), .val (.ref b9), .val (.ref b11), .val (.ref b13), .val (.ref b15), .unset, .unset] [(.ref b9)]))
                  refine own_via (fun t k => XS.aload X124.here hx rfl (hb hby at_226) rfl rfl k) ?_
                  show OwnEnds p.tables e below _ (T124.setTop (mkF m 228 #[.val (.int p0), .val (.int p1), .val (.int p2), .val (.int (4 : Int32)), .val (.int r0), .val (.int r1), .val (.int r2), .val (.int r3), .val (.int hg), .val (.int dr), .val (.ref b7), .val (.ref b9), .val (.ref b11), .val (.ref b13), .val (.ref b15), .unset, .unset] [(.ref b15), (.ref b9)]))
                  obtain ⟨T125, h125, X125, e125, W125, st125⟩ := putF X124 hx hZ hown (host := "") (Or.inl (hw _ (List.mem_of_getElem? (i := 19) rfl))) Via.refl e124 F_right_b9 E_b9 (Or.inl (hw _ (List.mem_of_getElem? (i := 20) rfl))) (hw _ (List.mem_of_getElem? (i := 1) rfl)) (ty := (.object "com/example/rowan/rowan/Node")) (by decide) rfl rfl (g := (mkF m 228 #[.val (.int p0), .val (.int p1), .val (.int p2), .val (.int (4 : Int32)), .val (.int r0), .val (.int r1), .val (.int r2), .val (.int r3), .val (.int hg), .val (.int dr), .val (.ref b7), .val (.ref b9), .val (.ref b11), .val (.ref b13), .val (.ref b15), .unset, .unset] [(.ref b15), (.ref b9)])) rfl rfl (hb hby at_228)
                  replace E_b7 := E_b7.wr W125
                  replace F_left_b7 := F_left_b7.other W125 (Or.inl ne_b7_b9)
                  replace F_right_b7 := F_right_b7.other W125 (Or.inl ne_b7_b9)
                  replace F_red_b7 := F_red_b7.other W125 (Or.inl ne_b7_b9)
                  replace E_b9 := E_b9.wr W125
                  replace F_left_b9 := F_left_b9.other W125 (Or.inr (slot_ne (Or.inl (hw _ (List.mem_of_getElem? (i := 22) rfl))) (Or.inl (hw _ (List.mem_of_getElem? (i := 20) rfl))) (by decide) (t := (.object "com/example/rowan/rowan/Node")) (t' := (.object "com/example/rowan/rowan/Node")) (by decide) (by decide)))
                  replace F_right_b9 := F_right_b9.same W125
                  replace F_red_b9 := F_red_b9.other W125 (Or.inr (slot_ne (Or.inl (hw _ (List.mem_of_getElem? (i := 14) rfl))) (Or.inl (hw _ (List.mem_of_getElem? (i := 20) rfl))) (by decide) (t := .boolean) (t' := (.object "com/example/rowan/rowan/Node")) (by decide) (by decide)))
                  replace E_b11 := E_b11.wr W125
                  replace F_left_b11 := F_left_b11.other W125 (Or.inl (Ne.symm ne_b9_b11))
                  replace F_right_b11 := F_right_b11.other W125 (Or.inl (Ne.symm ne_b9_b11))
                  replace F_red_b11 := F_red_b11.other W125 (Or.inl (Ne.symm ne_b9_b11))
                  replace E_b13 := E_b13.wr W125
                  replace F_left_b13 := F_left_b13.other W125 (Or.inl (Ne.symm ne_b9_b13))
                  replace F_right_b13 := F_right_b13.other W125 (Or.inl (Ne.symm ne_b9_b13))
                  replace F_red_b13 := F_red_b13.other W125 (Or.inl (Ne.symm ne_b9_b13))
                  replace E_b15 := E_b15.wr W125
                  replace F_left_b15 := F_left_b15.other W125 (Or.inl (Ne.symm ne_b9_b15))
                  replace F_right_b15 := F_right_b15.other W125 (Or.inl (Ne.symm ne_b9_b15))
                  replace F_red_b15 := F_red_b15.other W125 (Or.inl (Ne.symm ne_b9_b15))
                  have Zs_W125 : n0 ≤ _ := Nat.le_trans Zs_W124 (Keep.of_wr W125).1
                  have N125 := Fr.snoc X125 N124 g_b9
                  refine own_via st125 ?_
                  show OwnEnds p.tables e below _ (T125.setTop (mkF m 231 #[.val (.int p0), .val (.int p1), .val (.int p2), .val (.int (4 : Int32)), .val (.int r0), .val (.int r1), .val (.int r2), .val (.int r3), .val (.int hg), .val (.int dr), .val (.ref b7), .val (.ref b9), .val (.ref b11), .val (.ref b13), .val (.ref b15), .unset, .unset] []))
                  refine own_via (fun t k => XS.aload X125.here hx rfl (hb hby at_231) rfl rfl k) ?_
                  show OwnEnds p.tables e below _ (T125.setTop (mkF m 233 #[.val (.int p0), .val (.int p1), .val (.int p2), .val (.int (4 : Int32)), .val (.int r0), .val (.int r1), .val (.int r2), .val (.int r3), .val (.int hg), .val (.int dr), .val (.ref b7), .val (.ref b9), .val (.ref b11), .val (.ref b13), .val (.ref b15), .unset, .unset] [(.ref b11)]))
                  refine own_via (fun t k => XS.aload X125.here hx rfl (hb hby at_233) rfl rfl k) ?_
                  show OwnEnds p.tables e below _ (T125.setTop (mkF m 235 #[.val (.int p0), .val (.int p1), .val (.int p2), .val (.int (4 : Int32)), .val (.int r0), .val (.int r1), .val (.int r2), .val (.int r3), .val (.int hg), .val (.int dr), .val (.ref b7), .val (.ref b9), .val (.ref b11), .val (.ref b13), .val (.ref b15), .unset, .unset] [(.ref b15), (.ref b11)]))
                  obtain ⟨T126, h126, X126, e126, W126, st126⟩ := putF X125 hx hZ hown (host := "") (Or.inl (hw _ (List.mem_of_getElem? (i := 19) rfl))) Via.refl e125 F_right_b11 E_b11 (Or.inl (hw _ (List.mem_of_getElem? (i := 20) rfl))) (hw _ (List.mem_of_getElem? (i := 1) rfl)) (ty := (.object "com/example/rowan/rowan/Node")) (by decide) rfl rfl (g := (mkF m 235 #[.val (.int p0), .val (.int p1), .val (.int p2), .val (.int (4 : Int32)), .val (.int r0), .val (.int r1), .val (.int r2), .val (.int r3), .val (.int hg), .val (.int dr), .val (.ref b7), .val (.ref b9), .val (.ref b11), .val (.ref b13), .val (.ref b15), .unset, .unset] [(.ref b15), (.ref b11)])) rfl rfl (hb hby at_235)
                  replace E_b7 := E_b7.wr W126
                  replace F_left_b7 := F_left_b7.other W126 (Or.inl ne_b7_b11)
                  replace F_right_b7 := F_right_b7.other W126 (Or.inl ne_b7_b11)
                  replace F_red_b7 := F_red_b7.other W126 (Or.inl ne_b7_b11)
                  replace E_b9 := E_b9.wr W126
                  replace F_left_b9 := F_left_b9.other W126 (Or.inl ne_b9_b11)
                  replace F_right_b9 := F_right_b9.other W126 (Or.inl ne_b9_b11)
                  replace F_red_b9 := F_red_b9.other W126 (Or.inl ne_b9_b11)
                  replace E_b11 := E_b11.wr W126
                  replace F_left_b11 := F_left_b11.other W126 (Or.inr (slot_ne (Or.inl (hw _ (List.mem_of_getElem? (i := 22) rfl))) (Or.inl (hw _ (List.mem_of_getElem? (i := 20) rfl))) (by decide) (t := (.object "com/example/rowan/rowan/Node")) (t' := (.object "com/example/rowan/rowan/Node")) (by decide) (by decide)))
                  replace F_right_b11 := F_right_b11.same W126
                  replace F_red_b11 := F_red_b11.other W126 (Or.inr (slot_ne (Or.inl (hw _ (List.mem_of_getElem? (i := 14) rfl))) (Or.inl (hw _ (List.mem_of_getElem? (i := 20) rfl))) (by decide) (t := .boolean) (t' := (.object "com/example/rowan/rowan/Node")) (by decide) (by decide)))
                  replace E_b13 := E_b13.wr W126
                  replace F_left_b13 := F_left_b13.other W126 (Or.inl (Ne.symm ne_b11_b13))
                  replace F_right_b13 := F_right_b13.other W126 (Or.inl (Ne.symm ne_b11_b13))
                  replace F_red_b13 := F_red_b13.other W126 (Or.inl (Ne.symm ne_b11_b13))
                  replace E_b15 := E_b15.wr W126
                  replace F_left_b15 := F_left_b15.other W126 (Or.inl (Ne.symm ne_b11_b15))
                  replace F_right_b15 := F_right_b15.other W126 (Or.inl (Ne.symm ne_b11_b15))
                  replace F_red_b15 := F_red_b15.other W126 (Or.inl (Ne.symm ne_b11_b15))
                  have Zs_W126 : n0 ≤ _ := Nat.le_trans Zs_W125 (Keep.of_wr W126).1
                  have N126 := Fr.snoc X126 N125 g_b11
                  refine own_via st126 ?_
                  show OwnEnds p.tables e below _ (T126.setTop (mkF m 238 #[.val (.int p0), .val (.int p1), .val (.int p2), .val (.int (4 : Int32)), .val (.int r0), .val (.int r1), .val (.int r2), .val (.int r3), .val (.int hg), .val (.int dr), .val (.ref b7), .val (.ref b9), .val (.ref b11), .val (.ref b13), .val (.ref b15), .unset, .unset] []))
                  refine own_via (fun t k => XS.aload X126.here hx rfl (hb hby at_238) rfl rfl k) ?_
                  show OwnEnds p.tables e below _ (T126.setTop (mkF m 240 #[.val (.int p0), .val (.int p1), .val (.int p2), .val (.int (4 : Int32)), .val (.int r0), .val (.int r1), .val (.int r2), .val (.int r3), .val (.int hg), .val (.int dr), .val (.ref b7), .val (.ref b9), .val (.ref b11), .val (.ref b13), .val (.ref b15), .unset, .unset] [(.ref b13)]))
                  refine own_via (fun t k => XS.aload X126.here hx rfl (hb hby at_240) rfl rfl k) ?_
                  show OwnEnds p.tables e below _ (T126.setTop (mkF m 242 #[.val (.int p0), .val (.int p1), .val (.int p2), .val (.int (4 : Int32)), .val (.int r0), .val (.int r1), .val (.int r2), .val (.int r3), .val (.int hg), .val (.int dr), .val (.ref b7), .val (.ref b9), .val (.ref b11), .val (.ref b13), .val (.ref b15), .unset, .unset] [(.ref b15), (.ref b13)]))
                  obtain ⟨T127, h127, X127, e127, W127, st127⟩ := putF X126 hx hZ hown (host := "") (Or.inl (hw _ (List.mem_of_getElem? (i := 19) rfl))) Via.refl e126 F_right_b13 E_b13 (Or.inl (hw _ (List.mem_of_getElem? (i := 20) rfl))) (hw _ (List.mem_of_getElem? (i := 1) rfl)) (ty := (.object "com/example/rowan/rowan/Node")) (by decide) rfl rfl (g := (mkF m 242 #[.val (.int p0), .val (.int p1), .val (.int p2), .val (.int (4 : Int32)), .val (.int r0), .val (.int r1), .val (.int r2), .val (.int r3), .val (.int hg), .val (.int dr), .val (.ref b7), .val (.ref b9), .val (.ref b11), .val (.ref b13), .val (.ref b15), .unset, .unset] [(.ref b15), (.ref b13)])) rfl rfl (hb hby at_242)
                  replace E_b7 := E_b7.wr W127
                  replace F_left_b7 := F_left_b7.other W127 (Or.inl ne_b7_b13)
                  replace F_right_b7 := F_right_b7.other W127 (Or.inl ne_b7_b13)
                  replace F_red_b7 := F_red_b7.other W127 (Or.inl ne_b7_b13)
                  replace E_b9 := E_b9.wr W127
                  replace F_left_b9 := F_left_b9.other W127 (Or.inl ne_b9_b13)
                  replace F_right_b9 := F_right_b9.other W127 (Or.inl ne_b9_b13)
                  replace F_red_b9 := F_red_b9.other W127 (Or.inl ne_b9_b13)
                  replace E_b11 := E_b11.wr W127
                  replace F_left_b11 := F_left_b11.other W127 (Or.inl ne_b11_b13)
                  replace F_right_b11 := F_right_b11.other W127 (Or.inl ne_b11_b13)
                  replace F_red_b11 := F_red_b11.other W127 (Or.inl ne_b11_b13)
                  replace E_b13 := E_b13.wr W127
                  replace F_left_b13 := F_left_b13.other W127 (Or.inr (slot_ne (Or.inl (hw _ (List.mem_of_getElem? (i := 22) rfl))) (Or.inl (hw _ (List.mem_of_getElem? (i := 20) rfl))) (by decide) (t := (.object "com/example/rowan/rowan/Node")) (t' := (.object "com/example/rowan/rowan/Node")) (by decide) (by decide)))
                  replace F_right_b13 := F_right_b13.same W127
                  replace F_red_b13 := F_red_b13.other W127 (Or.inr (slot_ne (Or.inl (hw _ (List.mem_of_getElem? (i := 14) rfl))) (Or.inl (hw _ (List.mem_of_getElem? (i := 20) rfl))) (by decide) (t := .boolean) (t' := (.object "com/example/rowan/rowan/Node")) (by decide) (by decide)))
                  replace E_b15 := E_b15.wr W127
                  replace F_left_b15 := F_left_b15.other W127 (Or.inl (Ne.symm ne_b13_b15))
                  replace F_right_b15 := F_right_b15.other W127 (Or.inl (Ne.symm ne_b13_b15))
                  replace F_red_b15 := F_red_b15.other W127 (Or.inl (Ne.symm ne_b13_b15))
                  have Zs_W127 : n0 ≤ _ := Nat.le_trans Zs_W126 (Keep.of_wr W127).1
                  have N127 := Fr.snoc X127 N126 g_b13
                  refine own_via st127 ?_
                  show OwnEnds p.tables e below _ (T127.setTop (mkF m 245 #[.val (.int p0), .val (.int p1), .val (.int p2), .val (.int (4 : Int32)), .val (.int r0), .val (.int r1), .val (.int r2), .val (.int r3), .val (.int hg), .val (.int dr), .val (.ref b7), .val (.ref b9), .val (.ref b11), .val (.ref b13), .val (.ref b15), .unset, .unset] []))
                  exact J245_107 _ _ _ (own_wide X127 (by decide) (by decide)) e127 N127 Zs_W127 E_b7 F_left_b7 F_red_b7 E_b9 F_left_b9 F_red_b9 E_b11 F_left_b11 F_red_b11 E_b13 F_left_b13 F_red_b13 E_b15 F_left_b15 F_red_b15
            by_cases hc76_128 : (p2 &&& (2 : Int32)) = (0 : Int32)
            · skip
              refine own_via (fun t k => XS.ifYes X0.here hx rfl (pc0 := 76) (pc' := 83) rfl (hb hby at_76) rfl ((if0 _ _).trans (teq hc76_128).1) (by decide) (by decide) k) ?_
              show OwnEnds p.tables e below _ (s₁.setTop (mkF m 83 #[.val (.int p0), .val (.int p1), .val (.int p2), .val (.int n), .val (.int r0), .val (.int r1), .val (.int r2), .val (.int r3), .val (.int hg), .unset, .unset, .unset, .unset, .unset, .unset, .unset, .unset] []))
              refine own_via (fun t k => XS.iconst X0.here hx rfl (hb hby at_83) k) ?_
              show OwnEnds p.tables e below _ (s₁.setTop (mkF m 84 #[.val (.int p0), .val (.int p1), .val (.int p2), .val (.int n), .val (.int r0), .val (.int r1), .val (.int r2), .val (.int r3), .val (.int hg), .unset, .unset, .unset, .unset, .unset, .unset, .unset, .unset] [(.int (0 : Int32))]))
              exact J84_6 _ (by simp only [if_pos hc76_128])
            · skip
              refine own_via (fun t k => XS.ifNo X0.here hx rfl (hb hby at_76) rfl ((if0 _ _).trans (feq hc76_128).1) k) ?_
              show OwnEnds p.tables e below _ (s₁.setTop (mkF m 79 #[.val (.int p0), .val (.int p1), .val (.int p2), .val (.int n), .val (.int r0), .val (.int r1), .val (.int r2), .val (.int r3), .val (.int hg), .unset, .unset, .unset, .unset, .unset, .unset, .unset, .unset] []))
              refine own_via (fun t k => XS.iconst X0.here hx rfl (hb hby at_79) k) ?_
              show OwnEnds p.tables e below _ (s₁.setTop (mkF m 80 #[.val (.int p0), .val (.int p1), .val (.int p2), .val (.int n), .val (.int r0), .val (.int r1), .val (.int r2), .val (.int r3), .val (.int hg), .unset, .unset, .unset, .unset, .unset, .unset, .unset, .unset] [(.int (1 : Int32))]))
              refine own_via (fun t k => XS.goto X0.here hx rfl (pc0 := 80) (pc' := 84) rfl (hb hby at_80) (by decide) (by decide) k) ?_
              show OwnEnds p.tables e below _ (s₁.setTop (mkF m 84 #[.val (.int p0), .val (.int p1), .val (.int p2), .val (.int n), .val (.int r0), .val (.int r1), .val (.int r2), .val (.int r3), .val (.int hg), .unset, .unset, .unset, .unset, .unset, .unset, .unset, .unset] [(.int (1 : Int32))]))
              exact J84_6 _ (by simp only [if_neg hc76_128])
          by_cases hc63_129 : (p2 &&& (1 : Int32)) = (0 : Int32)
          · skip
            refine own_via (fun t k => XS.ifYes X0.here hx rfl (pc0 := 63) (pc' := 70) rfl (hb hby at_63) rfl ((if0 _ _).trans (teq hc63_129).1) (by decide) (by decide) k) ?_
            show OwnEnds p.tables e below _ (s₁.setTop (mkF m 70 #[.val (.int p0), .val (.int p1), .val (.int p2), .val (.int n), .val (.int r0), .val (.int r1), .val (.int r2), .val (.int r3), .unset, .unset, .unset, .unset, .unset, .unset, .unset, .unset, .unset] []))
            refine own_via (fun t k => XS.iconst X0.here hx rfl (hb hby at_70) k) ?_
            show OwnEnds p.tables e below _ (s₁.setTop (mkF m 71 #[.val (.int p0), .val (.int p1), .val (.int p2), .val (.int n), .val (.int r0), .val (.int r1), .val (.int r2), .val (.int r3), .unset, .unset, .unset, .unset, .unset, .unset, .unset, .unset, .unset] [(.int (0 : Int32))]))
            exact J71_5 _ (by simp only [if_pos hc63_129])
          · skip
            refine own_via (fun t k => XS.ifNo X0.here hx rfl (hb hby at_63) rfl ((if0 _ _).trans (feq hc63_129).1) k) ?_
            show OwnEnds p.tables e below _ (s₁.setTop (mkF m 66 #[.val (.int p0), .val (.int p1), .val (.int p2), .val (.int n), .val (.int r0), .val (.int r1), .val (.int r2), .val (.int r3), .unset, .unset, .unset, .unset, .unset, .unset, .unset, .unset, .unset] []))
            refine own_via (fun t k => XS.iconst X0.here hx rfl (hb hby at_66) k) ?_
            show OwnEnds p.tables e below _ (s₁.setTop (mkF m 67 #[.val (.int p0), .val (.int p1), .val (.int p2), .val (.int n), .val (.int r0), .val (.int r1), .val (.int r2), .val (.int r3), .unset, .unset, .unset, .unset, .unset, .unset, .unset, .unset, .unset] [(.int (1 : Int32))]))
            refine own_via (fun t k => XS.goto X0.here hx rfl (pc0 := 67) (pc' := 71) rfl (hb hby at_67) (by decide) (by decide) k) ?_
            show OwnEnds p.tables e below _ (s₁.setTop (mkF m 71 #[.val (.int p0), .val (.int p1), .val (.int p2), .val (.int n), .val (.int r0), .val (.int r1), .val (.int r2), .val (.int r3), .unset, .unset, .unset, .unset, .unset, .unset, .unset, .unset, .unset] [(.int (1 : Int32))]))
            exact J71_5 _ (by simp only [if_neg hc63_129])
        by_cases hc50_130 : (p1 &&& (8 : Int32)) = (0 : Int32)
        · skip
          refine own_via (fun t k => XS.ifYes X0.here hx rfl (pc0 := 50) (pc' := 57) rfl (hb hby at_50) rfl ((if0 _ _).trans (teq hc50_130).1) (by decide) (by decide) k) ?_
          show OwnEnds p.tables e below _ (s₁.setTop (mkF m 57 #[.val (.int p0), .val (.int p1), .val (.int p2), .val (.int n), .val (.int r0), .val (.int r1), .val (.int r2), .unset, .unset, .unset, .unset, .unset, .unset, .unset, .unset, .unset, .unset] []))
          refine own_via (fun t k => XS.iconst X0.here hx rfl (hb hby at_57) k) ?_
          show OwnEnds p.tables e below _ (s₁.setTop (mkF m 58 #[.val (.int p0), .val (.int p1), .val (.int p2), .val (.int n), .val (.int r0), .val (.int r1), .val (.int r2), .unset, .unset, .unset, .unset, .unset, .unset, .unset, .unset, .unset, .unset] [(.int (0 : Int32))]))
          exact J58_4 _ (by simp only [if_pos hc50_130])
        · skip
          refine own_via (fun t k => XS.ifNo X0.here hx rfl (hb hby at_50) rfl ((if0 _ _).trans (feq hc50_130).1) k) ?_
          show OwnEnds p.tables e below _ (s₁.setTop (mkF m 53 #[.val (.int p0), .val (.int p1), .val (.int p2), .val (.int n), .val (.int r0), .val (.int r1), .val (.int r2), .unset, .unset, .unset, .unset, .unset, .unset, .unset, .unset, .unset, .unset] []))
          refine own_via (fun t k => XS.iconst X0.here hx rfl (hb hby at_53) k) ?_
          show OwnEnds p.tables e below _ (s₁.setTop (mkF m 54 #[.val (.int p0), .val (.int p1), .val (.int p2), .val (.int n), .val (.int r0), .val (.int r1), .val (.int r2), .unset, .unset, .unset, .unset, .unset, .unset, .unset, .unset, .unset, .unset] [(.int (1 : Int32))]))
          refine own_via (fun t k => XS.goto X0.here hx rfl (pc0 := 54) (pc' := 58) rfl (hb hby at_54) (by decide) (by decide) k) ?_
          show OwnEnds p.tables e below _ (s₁.setTop (mkF m 58 #[.val (.int p0), .val (.int p1), .val (.int p2), .val (.int n), .val (.int r0), .val (.int r1), .val (.int r2), .unset, .unset, .unset, .unset, .unset, .unset, .unset, .unset, .unset, .unset] [(.int (1 : Int32))]))
          exact J58_4 _ (by simp only [if_neg hc50_130])
      by_cases hc36_131 : (p1 &&& (4 : Int32)) = (0 : Int32)
      · skip
        refine own_via (fun t k => XS.ifYes X0.here hx rfl (pc0 := 36) (pc' := 43) rfl (hb hby at_36) rfl ((if0 _ _).trans (teq hc36_131).1) (by decide) (by decide) k) ?_
        show OwnEnds p.tables e below _ (s₁.setTop (mkF m 43 #[.val (.int p0), .val (.int p1), .val (.int p2), .val (.int n), .val (.int r0), .val (.int r1), .unset, .unset, .unset, .unset, .unset, .unset, .unset, .unset, .unset, .unset, .unset] []))
        refine own_via (fun t k => XS.iconst X0.here hx rfl (hb hby at_43) k) ?_
        show OwnEnds p.tables e below _ (s₁.setTop (mkF m 44 #[.val (.int p0), .val (.int p1), .val (.int p2), .val (.int n), .val (.int r0), .val (.int r1), .unset, .unset, .unset, .unset, .unset, .unset, .unset, .unset, .unset, .unset, .unset] [(.int (0 : Int32))]))
        exact J44_3 _ (by simp only [if_pos hc36_131])
      · skip
        refine own_via (fun t k => XS.ifNo X0.here hx rfl (hb hby at_36) rfl ((if0 _ _).trans (feq hc36_131).1) k) ?_
        show OwnEnds p.tables e below _ (s₁.setTop (mkF m 39 #[.val (.int p0), .val (.int p1), .val (.int p2), .val (.int n), .val (.int r0), .val (.int r1), .unset, .unset, .unset, .unset, .unset, .unset, .unset, .unset, .unset, .unset, .unset] []))
        refine own_via (fun t k => XS.iconst X0.here hx rfl (hb hby at_39) k) ?_
        show OwnEnds p.tables e below _ (s₁.setTop (mkF m 40 #[.val (.int p0), .val (.int p1), .val (.int p2), .val (.int n), .val (.int r0), .val (.int r1), .unset, .unset, .unset, .unset, .unset, .unset, .unset, .unset, .unset, .unset, .unset] [(.int (1 : Int32))]))
        refine own_via (fun t k => XS.goto X0.here hx rfl (pc0 := 40) (pc' := 44) rfl (hb hby at_40) (by decide) (by decide) k) ?_
        show OwnEnds p.tables e below _ (s₁.setTop (mkF m 44 #[.val (.int p0), .val (.int p1), .val (.int p2), .val (.int n), .val (.int r0), .val (.int r1), .unset, .unset, .unset, .unset, .unset, .unset, .unset, .unset, .unset, .unset, .unset] [(.int (1 : Int32))]))
        exact J44_3 _ (by simp only [if_neg hc36_131])
    by_cases hc23_132 : (p1 &&& (2 : Int32)) = (0 : Int32)
    · skip
      refine own_via (fun t k => XS.ifYes X0.here hx rfl (pc0 := 23) (pc' := 30) rfl (hb hby at_23) rfl ((if0 _ _).trans (teq hc23_132).1) (by decide) (by decide) k) ?_
      show OwnEnds p.tables e below _ (s₁.setTop (mkF m 30 #[.val (.int p0), .val (.int p1), .val (.int p2), .val (.int n), .val (.int r0), .unset, .unset, .unset, .unset, .unset, .unset, .unset, .unset, .unset, .unset, .unset, .unset] []))
      refine own_via (fun t k => XS.iconst X0.here hx rfl (hb hby at_30) k) ?_
      show OwnEnds p.tables e below _ (s₁.setTop (mkF m 31 #[.val (.int p0), .val (.int p1), .val (.int p2), .val (.int n), .val (.int r0), .unset, .unset, .unset, .unset, .unset, .unset, .unset, .unset, .unset, .unset, .unset, .unset] [(.int (0 : Int32))]))
      exact J31_2 _ (by simp only [if_pos hc23_132])
    · skip
      refine own_via (fun t k => XS.ifNo X0.here hx rfl (hb hby at_23) rfl ((if0 _ _).trans (feq hc23_132).1) k) ?_
      show OwnEnds p.tables e below _ (s₁.setTop (mkF m 26 #[.val (.int p0), .val (.int p1), .val (.int p2), .val (.int n), .val (.int r0), .unset, .unset, .unset, .unset, .unset, .unset, .unset, .unset, .unset, .unset, .unset, .unset] []))
      refine own_via (fun t k => XS.iconst X0.here hx rfl (hb hby at_26) k) ?_
      show OwnEnds p.tables e below _ (s₁.setTop (mkF m 27 #[.val (.int p0), .val (.int p1), .val (.int p2), .val (.int n), .val (.int r0), .unset, .unset, .unset, .unset, .unset, .unset, .unset, .unset, .unset, .unset, .unset, .unset] [(.int (1 : Int32))]))
      refine own_via (fun t k => XS.goto X0.here hx rfl (pc0 := 27) (pc' := 31) rfl (hb hby at_27) (by decide) (by decide) k) ?_
      show OwnEnds p.tables e below _ (s₁.setTop (mkF m 31 #[.val (.int p0), .val (.int p1), .val (.int p2), .val (.int n), .val (.int r0), .unset, .unset, .unset, .unset, .unset, .unset, .unset, .unset, .unset, .unset, .unset, .unset] [(.int (1 : Int32))]))
      exact J31_2 _ (by simp only [if_neg hc23_132])
  by_cases hc10_133 : (p1 &&& (1 : Int32)) = (0 : Int32)
  · skip
    refine own_via (fun t k => XS.ifYes X0.here hx rfl (pc0 := 10) (pc' := 17) rfl (hb hby at_10) rfl ((if0 _ _).trans (teq hc10_133).1) (by decide) (by decide) k) ?_
    show OwnEnds p.tables e below _ (s₁.setTop (mkF m 17 #[.val (.int p0), .val (.int p1), .val (.int p2), .val (.int n), .unset, .unset, .unset, .unset, .unset, .unset, .unset, .unset, .unset, .unset, .unset, .unset, .unset] []))
    refine own_via (fun t k => XS.iconst X0.here hx rfl (hb hby at_17) k) ?_
    show OwnEnds p.tables e below _ (s₁.setTop (mkF m 18 #[.val (.int p0), .val (.int p1), .val (.int p2), .val (.int n), .unset, .unset, .unset, .unset, .unset, .unset, .unset, .unset, .unset, .unset, .unset, .unset, .unset] [(.int (0 : Int32))]))
    exact J18_1 _ (by simp only [if_pos hc10_133])
  · skip
    refine own_via (fun t k => XS.ifNo X0.here hx rfl (hb hby at_10) rfl ((if0 _ _).trans (feq hc10_133).1) k) ?_
    show OwnEnds p.tables e below _ (s₁.setTop (mkF m 13 #[.val (.int p0), .val (.int p1), .val (.int p2), .val (.int n), .unset, .unset, .unset, .unset, .unset, .unset, .unset, .unset, .unset, .unset, .unset, .unset, .unset] []))
    refine own_via (fun t k => XS.iconst X0.here hx rfl (hb hby at_13) k) ?_
    show OwnEnds p.tables e below _ (s₁.setTop (mkF m 14 #[.val (.int p0), .val (.int p1), .val (.int p2), .val (.int n), .unset, .unset, .unset, .unset, .unset, .unset, .unset, .unset, .unset, .unset, .unset, .unset, .unset] [(.int (1 : Int32))]))
    refine own_via (fun t k => XS.goto X0.here hx rfl (pc0 := 14) (pc' := 18) rfl (hb hby at_14) (by decide) (by decide) k) ?_
    show OwnEnds p.tables e below _ (s₁.setTop (mkF m 18 #[.val (.int p0), .val (.int p1), .val (.int p2), .val (.int n), .unset, .unset, .unset, .unset, .unset, .unset, .unset, .unset, .unset, .unset, .unset, .unset, .unset] [(.int (1 : Int32))]))
    exact J18_1 _ (by simp only [if_neg hc10_133])
set_option maxRecDepth 65536 in
set_option maxHeartbeats 40000000 in
theorem comes_1 {Post : Tables → Env → Array Value → State → Outcome → State → Prop} (hpost : ∀ tb e args s v u, (limb_1_1.after args s (.returned v) u = true ∧ limb_1_2.after args s (.returned v) u = true ∧ True) → FrameEnd s (.returned v) u (Jvm.fieldLocs frame_1_writes args s ++ Jvm.arrayLocs frame_1_arrays args s ++ Jvm.staticLocs frame_1_statics s) 24 192 → Post tb e args s (.returned v) u) :
    ArmFor flags0 classFile x code maxLocals ret World_1 tables_1 room_1 Calls_1 rest_1 Pre_1 Post := by
  intro l hfl _ _ p e ha hc hk s m args below hf hA hF happ hP
  obtain ⟨hcalls, hrest, hpre⟩ := hP
  obtain ⟨-, -, -, hnamed, -, -, -, hat⟩ := (Spec.applies_iff hf).mp happ
  obtain ⟨hg, hn⟩ := and_e (Cond.before_iff.mp (show (Jvm.Cond.and given_1 narrow_1).before args s = true from hpre))
  obtain ⟨hq0, hg0⟩ := and_e hg
  obtain ⟨hq1, hg1⟩ := and_e hg0
  obtain ⟨hq2, hg2⟩ := and_e hg1
  obtain ⟨w0, w1, w2, rfl⟩ : ∃ w0 w1 w2 : Value, args = #[w0, w1, w2] := by
    have hs : args.size = 3 := by simpa [Cond.value, given_1] using hq0
    obtain ⟨L⟩ := args
    match L, hs with
    | [w0, w1, w2], _ => exact ⟨w0, w1, w2, rfl⟩
  have hw := fun d (hd : d ∈ tables_1) => atoms_spec (ws := Jvm.Cond.code x code maxLocals ret :: tables_1) hat d (List.mem_cons_of_mem _ hd)
  have hfit : Fit s := fun {y c} hc i hi => by
    obtain ⟨ha, rfl⟩ := Array.getElem?_eq_some_iff.mp hc
    have q := List.all_eq_true.mp ((Array.all_eq_true_iff_forall_mem.mp hF) _ (Array.getElem_mem ha)) i (List.mem_range.mpr hi)
    simpa [Array.getElem?_eq_getElem hi] using q
  obtain ⟨i0, ei0⟩ := is_v hq1
  obtain rfl : w0 = (.int i0) := Option.some.inj ei0
  obtain ⟨i1, ei1⟩ := is_v hq2
  obtain rfl : w1 = (.int i1) := Option.some.inj ei1
  obtain ⟨i2, ei2⟩ := is_v hg2
  obtain rfl : w2 = (.int i2) := Option.some.inj ei2
  obtain ⟨n, o, h1, h2, h3, _, L, rfl, ⟨rfl, N⟩, hq⟩ := rm0 l s _ hw tables_1 i0 i1 i2 s.heap s.heap.size (Nat.le_refl _)  p e ha hc hk s m _ below hf ((Spec.applies_iff_loose hf).mp happ).1 ⟨rfl, State.Warmed39.refl s, rfl⟩ trivial
  refine ⟨n, _, h1, h2, h3, hpost _ _ _ _ _ _ ⟨Cond.after_iff.mpr rfl, Cond.after_iff.mpr (eq_i res_at (Term.int_eval (1)) rfl), trivial⟩ ⟨hq.1, hq.2.1, (hq.2.2.sift fun y hy => Or.inr (N y hy)).mono (by decide) (by decide)⟩⟩
theorem main_1_1 : Claimed_1_1 := comes_1 fun _ _ _ _ _ _ h hF => ⟨h.1, hF⟩
theorem main_1_2 : Claimed_1_2 := comes_1 fun _ _ _ _ _ _ h hF => ⟨h.2.1, hF⟩
end Jvm.Pilot.@@N@@
namespace Jvm.Pilot.@@N@@
open Jvm Jvm.ClassFile Sem Op Lib Jvm.Free Jvm.Stand Jvm.Pilot.@@N@@.Jvm.D
/-! MADE BY PROGRAM (witnessworld.py) out of the Statement's table words and the real class files: 10 classes; the members and pool entries that the words name. The judged class is class 1, her method 1. -/
namespace start1
open Jvm.ClassFile
def u (s : String) : CpInfo := .utf8 (stringToUtf16 s)
/-- a pool by its gaps: so many unusable entries, then the entry; so many at the end -/
def gap : Nat → List CpInfo → List CpInfo
  | 0, r => r
  | n + 1, r => .unusable :: gap n r
def poolList (es : List (Nat × CpInfo)) (last : Nat) : List CpInfo := es.foldr (fun e r => gap e.1 (e.2 :: r)) (gap last [])
def pool (es : List (Nat × CpInfo)) (last : Nat) : Array CpInfo := ⟨poolList es last⟩
def fileOf (pool : Array CpInfo) (this : Nat) (attrs : Array Attribute := #[]) (ms : Array MethodInfo := #[]) (fl : Nat := 33) (sup : Nat := 0) (ifs : Array Nat := #[]) (fds : Array FieldInfo := #[]) : ClassFile where
  minorVersion := 0
  majorVersion := 65
  constantPool := pool
  accessFlags := fl
  thisClass := this
  superClass := sup
  interfaces := ifs
  fields := fds
  methods := ms
  attributes := attrs
def plain (name : String) (sup : Option ClassId) : Class where
  name := name
  kind := .ordinary
  loader := none
  accessFlags := 33
  super := sup
  interfaces := #[]
  cf := none
  fields := #[]
  methods := #[]
  instanceTypes := #[]
  staticTypes := #[]
  resolved := #[]
  callSites := []
  init := .initialized
  statics := none
  mirror := none

def pool0 : Array CpInfo := pool [(5, u "<init>"), (0, u "()V"), (1, .class_ 10), (1, u "java/lang/Object")] 113

def k0c0 : Code := { maxStack := 0, maxLocals := 1, code := object_method_1_code, exceptionTable := #[], attributes := #[] }
def k0m0 : Method := { name := "<init>", desc := "()V", sig := { parameters := [], returnType := none }, accessFlags := 1, code := some k0c0 }
/-- java/lang/Object -/
def k0 : Class := { plain "java/lang/Object" none with
  accessFlags := 33
  interfaces := #[]
  cf := some (fileOf pool0 8 #[] #[{ accessFlags := 1, nameIndex := 5, descriptorIndex := 6, attributes := #[] }] 33 0 #[] #[])
  fields := #[]
  methods := #[k0m0]
  instanceTypes := #[]
  staticTypes := #[]
  resolved := Array.replicate 124 none
  statics := none }

def pool1 : Array CpInfo := pool [(2, .class_ 4), (1, u "java/lang/Object"), (0, u "<init>"), (0, u "()V"), (0, .class_ 8), (0, u "com/example/rowan/rowan/Node"), (0, .methodref 7 10), (0, .nameAndType 5 11), (0, u "(Ljava/lang/Object;Ljava/lang/Object;)V"), (0, .fieldref 7 13), (0, .nameAndType 14 15), (0, u "red"), (0, u "Z"), (0, .fieldref 7 17), (0, .nameAndType 18 19), (0, u "left"), (0, u "Lcom/example/rowan/rowan/Node;"), (0, .fieldref 7 21), (0, .nameAndType 22 19), (0, u "right"), (0, .methodref 7 24), (0, .nameAndType 25 26), (0, u "blackHeight"), (0, u "(Lcom/example/rowan/rowan/Node;)I"), (0, .class_ 28), (0, u "com/example/rowan/rowan/NodeBlackHeightPinLaw"), (2, u "law"), (0, u "(III)Z")] 3

def k1m0 : Method := { name := "<init>", desc := "()V", sig := { parameters := [], returnType := none }, accessFlags := 1, code := none }
def k1c1 : Code := { maxStack := 4, maxLocals := 17, code := code, exceptionTable := #[], attributes := #[] }
def k1m1 : Method := { name := "law", desc := "(III)Z", sig := { parameters := [.int, .int, .int], returnType := some .boolean }, accessFlags := 9, code := some k1c1 }
/-- com/example/rowan/rowan/NodeBlackHeightPinLaw -/
def k1 : Class := { plain "com/example/rowan/rowan/NodeBlackHeightPinLaw" (some 0) with
  accessFlags := 49
  interfaces := #[]
  cf := some (fileOf pool1 27 #[] #[{ accessFlags := 1, nameIndex := 5, descriptorIndex := 6, attributes := #[] }, { accessFlags := 9, nameIndex := 31, descriptorIndex := 32, attributes := #[] }] 49 2 #[] #[])
  fields := #[]
  methods := #[k1m0, k1m1]
  instanceTypes := #[]
  staticTypes := #[]
  resolved := Array.replicate 36 none
  statics := none }

def pool2 : Array CpInfo := pool [(1, .class_ 2), (0, u "com/example/rowan/rowan/NodeView"), (0, .class_ 4), (0, u "java/lang/Object")] 15

/-- com/example/rowan/rowan/NodeView -/
def k2 : Class := { plain "com/example/rowan/rowan/NodeView" (some 0) with
  accessFlags := 1537
  interfaces := #[]
  cf := some (fileOf pool2 1 #[] #[] 1537 3 #[] #[])
  fields := #[]
  methods := #[]
  instanceTypes := #[]
  staticTypes := #[]
  resolved := Array.replicate 20 none
  statics := none }

def pool3 : Array CpInfo := pool [(1, .methodref 2 3), (0, .class_ 4), (0, .nameAndType 5 6), (0, u "java/lang/Object"), (0, u "<init>"), (0, u "()V"), (0, .fieldref 8 9), (0, .class_ 10), (0, .nameAndType 11 12), (0, u "com/example/rowan/rowan/Node"), (0, u "key"), (0, u "Ljava/lang/Object;"), (0, .fieldref 8 14), (0, .nameAndType 15 12), (0, u "value"), (0, .fieldref 8 17), (0, .nameAndType 18 19), (0, u "red"), (0, u "Z"), (0, .fieldref 8 21), (0, .nameAndType 22 23), (0, u "left"), (0, u "Lcom/example/rowan/rowan/Node;"), (2, u "right"), (10, u "(Ljava/lang/Object;Ljava/lang/Object;)V"), (2, u "holdsShared"), (6, u "shared"), (7, u "(Lcom/example/rowan/rowan/Node;)I"), (46, .class_ 103), (0, u "com/example/rowan/rowan/NodeView"), (25, u "blackHeight")] 8

def k3c0 : Code := { maxStack := 2, maxLocals := 3, code := prog_16_method_1_code, exceptionTable := #[], attributes := #[] }
def k3m0 : Method := { name := "<init>", desc := "(Ljava/lang/Object;Ljava/lang/Object;)V", sig := { parameters := [(.object "java/lang/Object"), (.object "java/lang/Object")], returnType := none }, accessFlags := 0, code := some k3c0 }
def k3c1 : Code := { maxStack := 1, maxLocals := 3, code := prog_16_method_17_code, exceptionTable := #[], attributes := #[] }
def k3m1 : Method := { name := "blackHeight", desc := "(Lcom/example/rowan/rowan/Node;)I", sig := { parameters := [(.object "com/example/rowan/rowan/Node")], returnType := some .int }, accessFlags := 8, code := some k3c1 }
/-- com/example/rowan/rowan/Node -/
def k3 : Class := { plain "com/example/rowan/rowan/Node" (some 0) with
  accessFlags := 32
  interfaces := #[2]
  cf := some (fileOf pool3 8 #[] #[{ accessFlags := 0, nameIndex := 5, descriptorIndex := 37, attributes := #[] }, { accessFlags := 8, nameIndex := 129, descriptorIndex := 55, attributes := #[] }] 32 2 #[102] #[{ accessFlags := 0, nameIndex := 11, descriptorIndex := 12, attributes := #[] }, { accessFlags := 0, nameIndex := 15, descriptorIndex := 12, attributes := #[] }, { accessFlags := 0, nameIndex := 22, descriptorIndex := 23, attributes := #[] }, { accessFlags := 0, nameIndex := 26, descriptorIndex := 23, attributes := #[] }, { accessFlags := 0, nameIndex := 18, descriptorIndex := 19, attributes := #[] }, { accessFlags := 0, nameIndex := 47, descriptorIndex := 19, attributes := #[] }, { accessFlags := 0, nameIndex := 40, descriptorIndex := 19, attributes := #[] }])
  fields := #[{ name := "key", type := (.object "java/lang/Object"), accessFlags := 0, slot := 0, constantValue := 0 }, { name := "value", type := (.object "java/lang/Object"), accessFlags := 0, slot := 1, constantValue := 0 }, { name := "left", type := (.object "com/example/rowan/rowan/Node"), accessFlags := 0, slot := 2, constantValue := 0 }, { name := "right", type := (.object "com/example/rowan/rowan/Node"), accessFlags := 0, slot := 3, constantValue := 0 }, { name := "red", type := .boolean, accessFlags := 0, slot := 4, constantValue := 0 }, { name := "shared", type := .boolean, accessFlags := 0, slot := 5, constantValue := 0 }, { name := "holdsShared", type := .boolean, accessFlags := 0, slot := 6, constantValue := 0 }]
  methods := #[k3m0, k3m1]
  instanceTypes := #[(.object "java/lang/Object"), (.object "java/lang/Object"), (.object "com/example/rowan/rowan/Node"), (.object "com/example/rowan/rowan/Node"), .boolean, .boolean, .boolean]
  staticTypes := #[]
  resolved := Array.replicate 138 none
  statics := none }

def pool4 : Array CpInfo := pool [(1, u "java/lang/Cloneable"), (0, .class_ 1), (0, u "java/lang/Object"), (0, .class_ 3)] 3

/-- java/lang/Cloneable -/
def k4 : Class := { plain "java/lang/Cloneable" (some 0) with
  accessFlags := 1537
  interfaces := #[]
  cf := some (fileOf pool4 2 #[] #[] 1537 4 #[] #[])
  fields := #[]
  methods := #[]
  instanceTypes := #[]
  staticTypes := #[]
  resolved := Array.replicate 8 none
  statics := none }

def pool5 : Array CpInfo := pool [(1, u "java/io/Serializable"), (0, .class_ 1), (0, u "java/lang/Object"), (0, .class_ 3)] 3

/-- java/io/Serializable -/
def k5 : Class := { plain "java/io/Serializable" (some 0) with
  accessFlags := 1537
  interfaces := #[]
  cf := some (fileOf pool5 2 #[] #[] 1537 4 #[] #[])
  fields := #[]
  methods := #[]
  instanceTypes := #[]
  staticTypes := #[]
  resolved := Array.replicate 8 none
  statics := none }

/-- the primitive byte -/
def k6 : Class := { plain "byte" none with kind := .primitive 'B', accessFlags := 0x411 }
/-- [B -/
def k7 : Class := { plain "[B" (some 0) with kind := .array 6 .byte, interfaces := #[4, 5], accessFlags := 1041 }

/-- the primitive int -/
def k8 : Class := { plain "int" none with kind := .primitive 'I', accessFlags := 0x411 }
/-- [I -/
def k9 : Class := { plain "[I" (some 0) with kind := .array 8 .int, interfaces := #[4, 5], accessFlags := 1041 }

def heap : Heap := #[]
def classes : Array Class := #[k0, k1, k2, k3, k4, k5, k6, k7, k8, k9]
def interned : List (Array UInt16 × Addr) := []
def slotsUsed : Nat := 0
def theMethod : MethodId := ⟨1, 1⟩
def args0 : Array Value := #[.int 3, .int 300, .int 1]
def aboutOver (below : List Frame) : State where
  vm := { classes := classes, interned := interned.toArray }
  heap := heap
  slotsUsed := slotsUsed
  threads := #[{ frames := .invoking theMethod args0 :: below }]
def below0 : List Frame := [.native { method := ⟨0, 0⟩, args := #[] }]
def about1 : State := aboutOver below0
def p0 : Program := .bare "" "" ""
def e0 : Env := launch0.env 0 0 0
theorem w_frames : about1.frames = Frame.invoking theMethod args0 :: below0 := rfl
set_option maxRecDepth 65536 in
theorem w_args : argsFit about1.vm theMethod args0 = true := by decide +kernel
set_option maxRecDepth 65536 in
theorem w_heap : heapFits about1 = true := by decide +kernel
set_option maxRecDepth 65536 in
theorem w_runnable : about1.curStatus? = some .runnable := by decide +kernel
set_option maxRecDepth 65536 in
theorem w_alone : about1.alone = true := by decide +kernel
set_option maxRecDepth 65536 in
theorem w_named : about1.methodNamed? x = some theMethod := by decide +kernel
set_option maxRecDepth 65536 in
theorem w_hears : about1.hears theMethod below0 = true := by decide +kernel
set_option maxRecDepth 65536 in
theorem w_ripe : about1.ripe theMethod args0 below0 = true := by decide +kernel
theorem w_running : about1.status = .running := rfl
set_option maxRecDepth 65536 in
theorem w_room : about1.hasRoom e0.platform room_1 = true :=
  launch0.hasRoom_least _ room_1 (by decide +kernel) (by decide +kernel) (by decide +kernel) (by decide +kernel) (by decide +kernel) (by decide +kernel)
theorem allAtoms_all (ts : List Jvm.Cond) (a : Array Jvm.Value) (st : Jvm.State) : (allAtoms ts).before a st = ts.all (fun c => c.before a st) := by
  induction ts with
  | nil => rfl
  | cons c t ih =>
    show (Jvm.Cond.and c (allAtoms t)).before a st = _
    rw [Jvm.Cond.before_and, ih, List.all_cons]
def words1 : List Jvm.Cond := Jvm.Cond.code x code maxLocals ret :: tables_1
/-- a 'code' word, met by the world's own term for the bytes: nothing is compared byte by byte -/
theorem code_word {y : MethodName} {bytes : ByteArray} {mx : Nat} {rt : Option FieldType} {a : Array Value} {s : State} {m : MethodId} {meth : Method} {c : Code} (h1 : s.methodNamed? y = some m) (h2 : s.vm.method? m = some meth) (h3 : meth.code = some c) (h4 : c.code = bytes)
    (h5 : (c.maxLocals == mx && c.exceptionTable.isEmpty && decide (c.maxStack ≤ mostOperands) && decide (meth.sig.returnType = rt) && !meth.locks && decide (parseMethodDescriptor y.desc = some meth.sig)) = true) : (Jvm.Cond.code y bytes mx rt).before a s = true := by
  simp only [Bool.and_eq_true, beq_iff_eq, Bool.not_eq_true', decide_eq_true_eq] at h5
  obtain ⟨⟨⟨⟨⟨g1, g2⟩, g3⟩, g4⟩, g5⟩, g6⟩ := h5
  simp [Cond.before, Cond.holds, Cond.value, h1, h2, h3, h4, g1, g2, g3, g4, g5, g6]
def isCode : Jvm.Cond → Bool
  | .code _ _ _ _ => true
  | _ => false
theorem all_split {L : List Jvm.Cond} {P : Jvm.Cond → Bool} (h1 : L.all (fun c => isCode c || P c) = true) (h2 : ∀ c ∈ L.filter isCode, P c = true) : L.all P = true := by
  refine List.all_eq_true.mpr fun c hc => ?_
  have h := List.all_eq_true.mp h1 c hc
  rcases Bool.eq_false_or_eq_true (isCode c) with hi | hi
  · exact h2 c (List.mem_filter.mpr ⟨hc, hi⟩)
  · simpa [hi] using h
set_option maxRecDepth 65536 in
theorem w_c0 : (Jvm.Cond.code x code maxLocals ret).before args0 about1 = true := code_word (m := ⟨1, 1⟩) (meth := k1m1) (c := k1c1) (by decide +kernel) rfl rfl rfl (by decide +kernel)
set_option maxRecDepth 65536 in
theorem w_c1 : (Jvm.Cond.code ({ cls := "com/example/rowan/rowan/Node", name := "<init>", desc := "(Ljava/lang/Object;Ljava/lang/Object;)V" } : Jvm.MethodName) prog_16_method_1_code (3 : Nat) (Option.none : Option Jvm.ClassFile.FieldType)).before args0 about1 = true := code_word (m := ⟨3, 0⟩) (meth := k3m0) (c := k3c0) (by decide +kernel) rfl rfl rfl (by decide +kernel)
set_option maxRecDepth 65536 in
theorem w_c2 : (Jvm.Cond.code ({ cls := "java/lang/Object", name := "<init>", desc := "()V" } : Jvm.MethodName) object_method_1_code (1 : Nat) (Option.none : Option Jvm.ClassFile.FieldType)).before args0 about1 = true := code_word (m := ⟨0, 0⟩) (meth := k0m0) (c := k0c0) (by decide +kernel) rfl rfl rfl (by decide +kernel)
set_option maxRecDepth 65536 in
theorem w_c3 : (Jvm.Cond.code ({ cls := "com/example/rowan/rowan/Node", name := "blackHeight", desc := "(Lcom/example/rowan/rowan/Node;)I" } : Jvm.MethodName) prog_16_method_17_code (3 : Nat) (Option.some Jvm.ClassFile.FieldType.int)).before args0 about1 = true := code_word (m := ⟨3, 1⟩) (meth := k3m1) (c := k3c1) (by decide +kernel) rfl rfl rfl (by decide +kernel)
def codes1 : List Jvm.Cond := [Jvm.Cond.code x code maxLocals ret, Jvm.Cond.code ({ cls := "com/example/rowan/rowan/Node", name := "<init>", desc := "(Ljava/lang/Object;Ljava/lang/Object;)V" } : Jvm.MethodName) prog_16_method_1_code (3 : Nat) (Option.none : Option Jvm.ClassFile.FieldType), Jvm.Cond.code ({ cls := "java/lang/Object", name := "<init>", desc := "()V" } : Jvm.MethodName) object_method_1_code (1 : Nat) (Option.none : Option Jvm.ClassFile.FieldType), Jvm.Cond.code ({ cls := "com/example/rowan/rowan/Node", name := "blackHeight", desc := "(Lcom/example/rowan/rowan/Node;)I" } : Jvm.MethodName) prog_16_method_17_code (3 : Nat) (Option.some Jvm.ClassFile.FieldType.int)]
set_option maxRecDepth 65536 in
theorem codes_eq : words1.filter isCode = codes1 := rfl
theorem w_codes : ∀ c ∈ words1.filter isCode, c.before args0 about1 = true := by
  rw [codes_eq]
  intro c hc
  simp only [codes1, List.mem_cons, List.not_mem_nil, or_false] at hc
  rcases hc with rfl | rfl | rfl | rfl
  · exact w_c0
  · exact w_c1
  · exact w_c2
  · exact w_c3
set_option maxRecDepth 65536 in
theorem w_t1 : (words1.take 24).all (fun c => isCode c || c.before args0 about1) = true := by decide +kernel
set_option maxRecDepth 65536 in
theorem w_t2 : (words1.drop 24).all (fun c => isCode c || c.before args0 about1) = true := by decide +kernel
theorem w_tables : (allAtoms (Jvm.Cond.code x code maxLocals ret :: tables_1)).before args0 about1 = true := by
  rw [allAtoms_all]
  show words1.all (fun c => c.before args0 about1) = true
  refine all_split ?_ w_codes
  rw [← List.take_append_drop 24 words1, List.all_append, w_t1, w_t2]
  rfl
set_option maxRecDepth 65536 in
theorem w_case : (Jvm.Cond.and given_1 narrow_1).before args0 about1 = true := by decide +kernel
theorem w_applies : (headSpec (Jvm.Cond.code x code maxLocals ret :: tables_1) room_1).applies x e0.platform about1 = true :=
  (Spec.applies_iff w_frames).mpr ⟨w_running, w_runnable, w_alone, w_named, w_hears, w_ripe, w_room, w_tables⟩
theorem atStart : AtStart classFile x code maxLocals ret World_1 tables_1 room_1 Calls_1 rest_1 Pre_1 launch0 p0 e0 about1 theMethod args0 below0 :=
  ⟨lists_1, trivial, launch0.admits_env _ _ _, launch0.least_env, fairChoices_fair.cas, fairChoices_fair.clock, w_frames, w_args, w_heap, w_applies, trivial, trivial, w_case⟩
end start1
theorem witness_1 : WitnessClaimed_1 := ⟨start1.p0, start1.e0, start1.about1, start1.theMethod, start1.args0, start1.below0, start1.atStart⟩
end Jvm.Pilot.@@N@@
