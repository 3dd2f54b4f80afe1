import JvmDerived
import JvmDerived.Pilot.@@N@@Statement
import JvmDerived.Pilot.@@N@@Code
set_option linter.unusedVariables false
set_option linter.unusedSimpArgs false
namespace Jvm.Pilot.@@N@@
open Jvm Jvm.ClassFile Sem Op Lib Jvm.Free Jvm.Stand Jvm.LawKit Jvm.RoadKit Bundle Jvm.Pilot.@@N@@.Jvm.D
section Own
variable {p : Program} {l : Launch} {e : Env} {R : Room} {s : State} {m : MethodId} {args : Array Value} {below : List Frame} {meth : Method} {c : Code} {T : State} {locs : List Loc} {cells slots : Nat}
/-- from U the run comes to an end of which Q holds -/
def OwnEnds (tb : Tables) (e : Env) (below : List Frame) (Q : Outcome → State → Prop) (U : State) : Prop :=
  ∃ s₂ o, Steps tb e below U s₂ ∧ s₂.status = .running ∧ Ended s₂ below o ∧ Q o s₂
abbrev OwnQ (s : State) (K N : Nat) (Q : Option Value → Heap → List Loc → Prop) : Outcome → State → Prop :=
  fun o U => ∃ v L, o = .returned v ∧ Q v U.heap L ∧ FrameEnd s o U L K N
theorem own_via {tb : Tables} {Q : Outcome → State → Prop} {U U' : State} (h : ∀ t, Steps tb e below U' t → Steps tb e below U t) (k : OwnEnds tb e below Q U') : OwnEnds tb e below Q U := by
  obtain ⟨s₂, o, h1, h2⟩ := k
  exact ⟨s₂, o, h _ h1, h2⟩
theorem own_of {tb : Tables} {Q : Outcome → State → Prop} {U U' : State} (h : Steps tb e below U U') (k : OwnEnds tb e below Q U') : OwnEnds tb e below Q U :=
  own_via (fun _ q => h.trans q) k
theorem own_wide {K N : Nat} (X : Stand p l e R s m args below meth c T locs cells slots) (h1 : cells ≤ K) (h2 : slots ≤ N) : Stand p l e R s m args below meth c T locs K N :=
  { X with same := X.same.mono h1 h2 }
theorem own_ret (X : Stand p l e R s m args below meth c T locs cells slots) {Q : Option Value → Heap → List Loc → Prop} {K N : Nat} {v : Option Value} (hv : meth.sig.returnType = none → v = none) (hlk : meth.locks = false) {f : JFrame}
    (st : ∀ fs, (∀ (f : JFrame) (acts : List Action), f.method = m → f.locked = none → f.entered = [] → (doReturn e (T.setTop f) acts v).1 = T.setFrames fs) → Steps p.tables e below (T.setTop f) (T.setFrames fs))
    (hQ : Q v T.heap locs) (hK : cells ≤ K) (hN : slots ≤ N) : OwnEnds p.tables e below (OwnQ s K N Q) (T.setTop f) := by
  obtain ⟨fs, hr, hrun, hended, hW, hsame⟩ := X.leave (v := v) hv hlk
  exact ⟨_, _, st fs hr, hrun, hended, _, _, rfl, hQ, ⟨_, rfl⟩, hW, hsame.mono hK hN⟩
theorem own_retI (X : Stand p l e R s m args below meth c T locs cells slots) (hx : p.tables.exec = Jvm.exec) {Q : Option Value → Heap → List Loc → Prop} {K N pc : Nat} {Ls : Array Slot} {z : Int32} {rest : List Value} (hret : meth.sig.returnType = some .int) (hlk : meth.locks = false) (hd : decode c.code pc = .ok (.ireturn, 1))
    (hQ : Q (some (.int z)) T.heap locs) (hK : cells ≤ K) (hN : slots ≤ N) : OwnEnds p.tables e below (OwnQ s K N Q) (T.setTop (mkF m pc Ls (.int z :: rest))) :=
  own_ret X (fun h => by rw [hret] at h; cases h) hlk (fun fs hl => retOut X hx hret rfl (Or.inl ⟨rfl, Or.inl rfl, z, rfl⟩) hd hl) hQ hK hN
theorem own_retN (X : Stand p l e R s m args below meth c T locs cells slots) (hx : p.tables.exec = Jvm.exec) {Q : Option Value → Heap → List Loc → Prop} {K N pc : Nat} {Ls : Array Slot} {z : Int32} {t : FieldType} {rest : List Value} (hret : meth.sig.returnType = some t) (ht : t = .boolean ∨ t = .byte ∨ t = .char ∨ t = .short) (hlk : meth.locks = false) (hd : decode c.code pc = .ok (.ireturn, 1))
    (hQ : Q (some (.int (nar t z))) T.heap locs) (hK : cells ≤ K) (hN : slots ≤ N) : OwnEnds p.tables e below (OwnQ s K N Q) (T.setTop (mkF m pc Ls (.int z :: rest))) :=
  own_ret X (fun h => by rw [hret] at h; cases h) hlk (fun fs hl => retN X hx hret ht hd hl) hQ hK hN
theorem own_retJ (X : Stand p l e R s m args below meth c T locs cells slots) (hx : p.tables.exec = Jvm.exec) {Q : Option Value → Heap → List Loc → Prop} {K N pc : Nat} {Ls : Array Slot} {z : Int64} {rest : List Value} (hret : meth.sig.returnType = some .long) (hlk : meth.locks = false) (hd : decode c.code pc = .ok (.lreturn, 1))
    (hQ : Q (some (.long z)) T.heap locs) (hK : cells ≤ K) (hN : slots ≤ N) : OwnEnds p.tables e below (OwnQ s K N Q) (T.setTop (mkF m pc Ls (.long z :: rest))) :=
  own_ret X (fun h => by rw [hret] at h; cases h) hlk (fun fs hl => retOut X hx hret rfl (Or.inr (Or.inl ⟨rfl, rfl, z, rfl⟩)) hd hl) hQ hK hN
theorem own_retA (X : Stand p l e R s m args below meth c T locs cells slots) (hx : p.tables.exec = Jvm.exec) {Q : Option Value → Heap → List Loc → Prop} {K N pc : Nat} {Ls : Array Slot} {w : Value} {t : FieldType} {rest : List Value} (hret : meth.sig.returnType = some t) (ht : t.isReference = true) (hw : w.isRef = true) (hlk : meth.locks = false) (hd : decode c.code pc = .ok (.areturn, 1))
    (hQ : Q (some w) T.heap locs) (hK : cells ≤ K) (hN : slots ≤ N) : OwnEnds p.tables e below (OwnQ s K N Q) (T.setTop (mkF m pc Ls (w :: rest))) :=
  own_ret X (fun h => by rw [hret] at h; cases h) hlk (fun fs hl => retOut X hx hret (by cases t <;> first | (cases ht; done) | (cases w <;> first | rfl | (cases hw; done))) (Or.inr (Or.inr (Or.inr (Or.inr ⟨rfl, ht, hw⟩)))) hd hl) hQ hK hN
theorem own_retV (X : Stand p l e R s m args below meth c T locs cells slots) (hx : p.tables.exec = Jvm.exec) {Q : Option Value → Heap → List Loc → Prop} {K N pc : Nat} {Ls : Array Slot} (hret : meth.sig.returnType = none) (hlk : meth.locks = false) (hd : decode c.code pc = .ok (.return_, 1))
    (hQ : Q none T.heap locs) (hK : cells ≤ K) (hN : slots ≤ N) : OwnEnds p.tables e below (OwnQ s K N Q) (T.setTop (mkF m pc Ls [])) :=
  own_ret X (fun _ => rfl) hlk (fun fs hl => X.returnOut hx hret hd hl) hQ hK hN
theorem own_lc_lt_t {x y : Int64} (h : x < y) : ifCond.holds .lt (lcmpW x y) = true ∧ ifCond.holds .ge (lcmpW x y) = false := by
  have q : lcmpW x y < 0 := by rw [lcW, lc_lt]; exact h
  exact ⟨(if0 _ _).trans (tlt q).1, (if0 _ _).trans (tlt q).2.1⟩
theorem own_lc_lt_f {x y : Int64} (h : ¬ (x < y)) : ifCond.holds .lt (lcmpW x y) = false ∧ ifCond.holds .ge (lcmpW x y) = true := by
  have q : ¬ lcmpW x y < 0 := by rw [lcW, lc_lt]; exact h
  exact ⟨(if0 _ _).trans (flt q).1, (if0 _ _).trans (flt q).2.1⟩
theorem own_lc_gt_t {x y : Int64} (h : y < x) : ifCond.holds .gt (lcmpW x y) = true ∧ ifCond.holds .le (lcmpW x y) = false := by
  have q : 0 < lcmpW x y := by rw [lcW, lc_gt]; exact h
  exact ⟨(if0 _ _).trans (tlt q).2.2.1, (if0 _ _).trans (tlt q).2.2.2⟩
theorem own_lc_gt_f {x y : Int64} (h : ¬ (y < x)) : ifCond.holds .gt (lcmpW x y) = false ∧ ifCond.holds .le (lcmpW x y) = true := by
  have q : ¬ 0 < lcmpW x y := by rw [lcW, lc_gt]; exact h
  exact ⟨(if0 _ _).trans (flt q).2.2.1, (if0 _ _).trans (flt q).2.2.2⟩
theorem own_lc_eq_t {x y : Int64} (h : x = y) : ifCond.holds .eq (lcmpW x y) = true ∧ ifCond.holds .ne (lcmpW x y) = false := by
  have q : lcmpW x y = 0 := by rw [lcW, lc_eq]; exact h
  exact ⟨(if0 _ _).trans (teq q).1, (if0 _ _).trans (teq q).2⟩
theorem own_lc_eq_f {x y : Int64} (h : ¬ (x = y)) : ifCond.holds .eq (lcmpW x y) = false ∧ ifCond.holds .ne (lcmpW x y) = true := by
  have q : ¬ lcmpW x y = 0 := by rw [lcW, lc_eq]; exact h
  exact ⟨(if0 _ _).trans (feq q).1, (if0 _ _).trans (feq q).2⟩
theorem own_lrem {g : JFrame} {target : State} (X : Stand p l e R s m args below meth c T locs cells slots) (hx : p.tables.exec = Jvm.exec) (hg : g.method = m) {x y : Int64} {rest : List Value} (hd : decode c.code g.pc = .ok (.lrem, 1)) (hs : g.stack = .long y :: .long x :: rest) (hy : y ≠ 0)
    (hr : Steps p.tables e below (T.setTop { g with pc := g.pc + 1, stack := .long (x % y) :: rest }) target) : Steps p.tables e below (T.setTop g) target := by
  have q : x - x / y * y = x % y := lrem_mod x y
  exact XS.lrem X.here hx hg hd hs hy (by rw [q]; exact hr)
theorem own_cat {w : Value} (h : w.isRef = true) : w.category = 1 := by rcases ref_cases h with rfl | ⟨a, rfl⟩ <;> rfl
theorem own_narR {w : Value} {t : FieldType} (ht : t.isReference = true) (h : w.isRef = true) : narrow t w = w := by
  cases t <;> first | (cases ht; done) | (rcases ref_cases h with rfl | ⟨a, rfl⟩ <;> rfl)
theorem own_fitR {w : Value} {t : FieldType} (ht : t.isReference = true) (h : w.isRef = true) : fits t w = true := by
  cases t <;> first | (cases ht; done) | (rcases ref_cases h with rfl | ⟨a, rfl⟩ <;> rfl)
theorem own_narb {c : Prop} [Decidable c] {r : Int32} (h : r = if c then 0 else 1) : nar .boolean r = r := by
  by_cases q : c
  · rw [if_pos q] at h; rw [h]; rfl
  · rw [if_neg q] at h; rw [h]; rfl
/-! arrays as lists of values -/
def AL (Z : State) (h : Heap) (a : Addr) (ty : FieldType) (xs : List Value) : Prop := ∃ c : Cell, Arr Z h a c ty ∧ c.slots.toList = xs ∧ xs.length < 2147483648
variable {Z : State} {h h' : Heap} {a b : Addr} {ty : FieldType} {xs : List Value} {sl : Nat} {v : Value} {ws : List Addr} {C n d : String}
theorem AL.lt (F : AL Z h a ty xs) : a < h.size := by obtain ⟨c, A, -⟩ := F; exact A.lt
theorem AL.ext (F : AL Z h a ty xs) (E : Ext h h') : AL Z h' a ty xs := by obtain ⟨c, A, r⟩ := F; exact ⟨c, A.ext E, r⟩
theorem AL.other (F : AL Z h a ty xs) (W : Wr h h' b sl v) (q : a ≠ b) : AL Z h' a ty xs := by obtain ⟨c, A, r⟩ := F; exact ⟨c, A.other W q, r⟩
theorem AL.keep (F : AL Z h a ty xs) (K : Keep h h' ws) (q : a ∉ ws) : AL Z h' a ty xs := by obtain ⟨c, A, r⟩ := F; exact ⟨c, ⟨K.2.1 a c A.1 q, A.2⟩, r⟩
theorem AL.new {k : ClassId} {z : Int32} (A : Arr Z h a (newA k ty z) ty) (q : ¬ z < 0) {i : Nat} (hi : z.toNatClampNeg = i) : AL Z h a ty (List.replicate i (defaultValue ty)) := by
  refine ⟨_, A, ?_, ?_⟩
  · simp [newA, hi]
  · rw [List.length_replicate, ← hi]; exact (back32 q).2
theorem AL.ne {C : String} (F : AL Z h a ty xs) (G : Exa Z h b C) {a0 : Array Value} {k : Nat} (wi : (Cond.instantiable C k).before a0 Z = true) : b ≠ a := by
  obtain ⟨c, A, -⟩ := F; exact ne_arr G wi A
theorem own_idx {cl : Cell} (hc : cl.slots.toList = xs) {j : Int32} {i : Nat} (hj : j.toInt = i) (hi : i < xs.length) : ¬ (j < 0 ∨ cl.slots.size ≤ j.toNatClampNeg) ∧ j.toNatClampNeg = i := by
  have h1 : j.toNatClampNeg = i := by simp only [Int32.toNatClampNeg, hj]; rfl
  have h2 : cl.slots.size = xs.length := by rw [← hc]; simp
  refine ⟨fun q => ?_, h1⟩
  rcases q with q | q
  · rw [Int32.lt_iff_toInt_lt, hj] at q; have e0 : (0 : Int32).toInt = 0 := rfl; omega
  · omega
theorem own_at {cl : Cell} (hc : cl.slots.toList = xs) {i : Nat} : cl.slots[i]? = xs[i]? := by rw [← hc]; simp
theorem AL.set {cl : Cell} (A : Arr Z h a cl ty) (hc : cl.slots.toList = xs) (hl : xs.length < 2147483648) {i : Nat} (W : Wr h h' a i v) : AL Z h' a ty (xs.set i v) := by
  refine ⟨_, A.same W, ?_, by simpa using hl⟩
  simp [Cell.setSlot, hc]
theorem own_stI (X : Stand p l e R s m args below meth c T locs cells slots) (hx : p.tables.exec = Jvm.exec) (hZ : Z.Warmed39 s.vm) (eT : T.heap = h) (A : AL Z h a .int xs) {j x : Int32} (i : Nat) (hj : j.toInt = i) (hi : i < xs.length) {g : JFrame} (hg : g.method = m) {rest : List Value} (hs : g.stack = .int x :: .int j :: .ref a :: rest) (hd : decode c.code g.pc = .ok (.iastore, 1)) :
    ∃ T' h', Stand p l e R s m args below meth c T' (locs ++ [⟨a, i⟩]) cells slots ∧ T'.heap = h' ∧ Wr h h' a i (.int x) ∧ AL Z h' a .int (xs.set i (.int x)) ∧ ∀ target, Steps p.tables e below (T'.setTop { g with pc := g.pc + 1, stack := rest }) target → Steps p.tables e below (T.setTop g) target := by
  obtain ⟨cl, A1, A2, A3⟩ := A
  obtain ⟨q1, q2⟩ := own_idx A2 hj hi
  obtain ⟨T', h', X', e', W, st⟩ := stI X hx hZ eT A1 q1 hg hs hd
  rw [q2] at X' W
  exact ⟨T', h', X', e', W, AL.set A1 A2 A3 W, st⟩
theorem own_stJ (X : Stand p l e R s m args below meth c T locs cells slots) (hx : p.tables.exec = Jvm.exec) (hZ : Z.Warmed39 s.vm) (eT : T.heap = h) (A : AL Z h a .long xs) {j : Int32} {x : Int64} (i : Nat) (hj : j.toInt = i) (hi : i < xs.length) {g : JFrame} (hg : g.method = m) {rest : List Value} (hs : g.stack = .long x :: .int j :: .ref a :: rest) (hd : decode c.code g.pc = .ok (.lastore, 1)) :
    ∃ T' h', Stand p l e R s m args below meth c T' (locs ++ [⟨a, i⟩]) cells slots ∧ T'.heap = h' ∧ Wr h h' a i (.long x) ∧ AL Z h' a .long (xs.set i (.long x)) ∧ ∀ target, Steps p.tables e below (T'.setTop { g with pc := g.pc + 1, stack := rest }) target → Steps p.tables e below (T.setTop g) target := by
  obtain ⟨cl, A1, A2, A3⟩ := A
  obtain ⟨q1, q2⟩ := own_idx A2 hj hi
  obtain ⟨T', h', X', e', W, st⟩ := stJ X hx hZ eT A1 q1 hg hs hd
  rw [q2] at X' W
  exact ⟨T', h', X', e', W, AL.set A1 A2 A3 W, st⟩
theorem own_stB (X : Stand p l e R s m args below meth c T locs cells slots) (hx : p.tables.exec = Jvm.exec) (hZ : Z.Warmed39 s.vm) (eT : T.heap = h) (A : AL Z h a .byte xs) {j x : Int32} (i : Nat) (hj : j.toInt = i) (hi : i < xs.length) {g : JFrame} (hg : g.method = m) {rest : List Value} (hs : g.stack = .int x :: .int j :: .ref a :: rest) (hd : decode c.code g.pc = .ok (.bastore, 1)) :
    ∃ T' h', Stand p l e R s m args below meth c T' (locs ++ [⟨a, i⟩]) cells slots ∧ T'.heap = h' ∧ Wr h h' a i (.int (nar .byte x)) ∧ AL Z h' a .byte (xs.set i (.int (nar .byte x))) ∧ ∀ target, Steps p.tables e below (T'.setTop { g with pc := g.pc + 1, stack := rest }) target → Steps p.tables e below (T.setTop g) target := by
  obtain ⟨cl, A1, A2, A3⟩ := A
  obtain ⟨q1, q2⟩ := own_idx A2 hj hi
  obtain ⟨T', h', X', e', W, st⟩ := stB X hx hZ eT A1 q1 hg hs hd
  rw [q2] at X' W
  exact ⟨T', h', X', e', W, AL.set A1 A2 A3 W, st⟩
theorem own_stZ (X : Stand p l e R s m args below meth c T locs cells slots) (hx : p.tables.exec = Jvm.exec) (hZ : Z.Warmed39 s.vm) (eT : T.heap = h) (A : AL Z h a .boolean xs) {j x : Int32} (i : Nat) (hj : j.toInt = i) (hi : i < xs.length) {g : JFrame} (hg : g.method = m) {rest : List Value} (hs : g.stack = .int x :: .int j :: .ref a :: rest) (hd : decode c.code g.pc = .ok (.bastore, 1)) :
    ∃ T' h', Stand p l e R s m args below meth c T' (locs ++ [⟨a, i⟩]) cells slots ∧ T'.heap = h' ∧ Wr h h' a i (.int (nar .boolean x)) ∧ AL Z h' a .boolean (xs.set i (.int (nar .boolean x))) ∧ ∀ target, Steps p.tables e below (T'.setTop { g with pc := g.pc + 1, stack := rest }) target → Steps p.tables e below (T.setTop g) target := by
  obtain ⟨cl, A1, A2, A3⟩ := A
  obtain ⟨q1, q2⟩ := own_idx A2 hj hi
  obtain ⟨T', h', X', e', W, st⟩ := stZ X hx hZ eT A1 q1 hg hs hd
  rw [q2] at X' W
  exact ⟨T', h', X', e', W, AL.set A1 A2 A3 W, st⟩
theorem own_stC (X : Stand p l e R s m args below meth c T locs cells slots) (hx : p.tables.exec = Jvm.exec) (hZ : Z.Warmed39 s.vm) (eT : T.heap = h) (A : AL Z h a .char xs) {j x : Int32} (i : Nat) (hj : j.toInt = i) (hi : i < xs.length) {g : JFrame} (hg : g.method = m) {rest : List Value} (hs : g.stack = .int x :: .int j :: .ref a :: rest) (hd : decode c.code g.pc = .ok (.castore, 1)) :
    ∃ T' h', Stand p l e R s m args below meth c T' (locs ++ [⟨a, i⟩]) cells slots ∧ T'.heap = h' ∧ Wr h h' a i (.int (nar .char x)) ∧ AL Z h' a .char (xs.set i (.int (nar .char x))) ∧ ∀ target, Steps p.tables e below (T'.setTop { g with pc := g.pc + 1, stack := rest }) target → Steps p.tables e below (T.setTop g) target := by
  obtain ⟨cl, A1, A2, A3⟩ := A
  obtain ⟨q1, q2⟩ := own_idx A2 hj hi
  obtain ⟨T', h', X', e', W, st⟩ := stC X hx hZ eT A1 q1 hg hs hd
  rw [q2] at X' W
  exact ⟨T', h', X', e', W, AL.set A1 A2 A3 W, st⟩
theorem own_lt_len {i : Nat} (hv : xs[i]? = some v) : i < xs.length := (List.getElem?_eq_some_iff.mp hv).1
theorem own_ldI (X : Stand p l e R s m args below meth c T locs cells slots) (hx : p.tables.exec = Jvm.exec) (hZ : Z.Warmed39 s.vm) (eT : T.heap = h) (A : AL Z h a .int xs) {j : Int32} (i : Nat) (hj : j.toInt = i) (hv : xs[i]? = some v) {g : JFrame} (hg : g.method = m) {rest : List Value} (hs : g.stack = .int j :: .ref a :: rest) (hd : decode c.code g.pc = .ok (.iaload, 1)) :
    ∀ target, Steps p.tables e below (T.setTop { g with pc := g.pc + 1, stack := v :: rest }) target → Steps p.tables e below (T.setTop g) target := by
  obtain ⟨cl, A1, A2, A3⟩ := A
  obtain ⟨q1, q2⟩ := own_idx A2 hj (own_lt_len hv)
  exact X.iaload hx (by rw [eT]; exact A1.1) (State.isArrayOf_alike hZ.alike A1.2.1) A1.2.2 q1 (by rw [q2, own_at A2]; exact hv) hg hs hd
theorem own_ldJ (X : Stand p l e R s m args below meth c T locs cells slots) (hx : p.tables.exec = Jvm.exec) (hZ : Z.Warmed39 s.vm) (eT : T.heap = h) (A : AL Z h a .long xs) {j : Int32} (i : Nat) (hj : j.toInt = i) (hv : xs[i]? = some v) {g : JFrame} (hg : g.method = m) {rest : List Value} (hs : g.stack = .int j :: .ref a :: rest) (hd : decode c.code g.pc = .ok (.laload, 1)) :
    ∀ target, Steps p.tables e below (T.setTop { g with pc := g.pc + 1, stack := v :: rest }) target → Steps p.tables e below (T.setTop g) target := by
  obtain ⟨cl, A1, A2, A3⟩ := A
  obtain ⟨q1, q2⟩ := own_idx A2 hj (own_lt_len hv)
  exact X.laload hx (by rw [eT]; exact A1.1) (State.isArrayOf_alike hZ.alike A1.2.1) A1.2.2 q1 (by rw [q2, own_at A2]; exact hv) hg hs hd
theorem own_ldB (X : Stand p l e R s m args below meth c T locs cells slots) (hx : p.tables.exec = Jvm.exec) (hZ : Z.Warmed39 s.vm) (eT : T.heap = h) (A : AL Z h a .byte xs) {j : Int32} (i : Nat) (hj : j.toInt = i) (hv : xs[i]? = some v) {g : JFrame} (hg : g.method = m) {rest : List Value} (hs : g.stack = .int j :: .ref a :: rest) (hd : decode c.code g.pc = .ok (.baload, 1)) :
    ∀ target, Steps p.tables e below (T.setTop { g with pc := g.pc + 1, stack := v :: rest }) target → Steps p.tables e below (T.setTop g) target := by
  obtain ⟨cl, A1, A2, A3⟩ := A
  obtain ⟨q1, q2⟩ := own_idx A2 hj (own_lt_len hv)
  exact X.baloadBytes hx (by rw [eT]; exact A1.1) (State.isArrayOf_alike hZ.alike A1.2.1) A1.2.2 q1 (by rw [q2, own_at A2]; exact hv) hg hs hd
theorem own_ldZ (X : Stand p l e R s m args below meth c T locs cells slots) (hx : p.tables.exec = Jvm.exec) (hZ : Z.Warmed39 s.vm) (eT : T.heap = h) (A : AL Z h a .boolean xs) {j : Int32} (i : Nat) (hj : j.toInt = i) (hv : xs[i]? = some v) {g : JFrame} (hg : g.method = m) {rest : List Value} (hs : g.stack = .int j :: .ref a :: rest) (hd : decode c.code g.pc = .ok (.baload, 1)) :
    ∀ target, Steps p.tables e below (T.setTop { g with pc := g.pc + 1, stack := v :: rest }) target → Steps p.tables e below (T.setTop g) target := by
  obtain ⟨cl, A1, A2, A3⟩ := A
  obtain ⟨q1, q2⟩ := own_idx A2 hj (own_lt_len hv)
  exact X.baloadBooleans hx (by rw [eT]; exact A1.1) (State.isArrayOf_alike hZ.alike A1.2.1) A1.2.2 q1 (by rw [q2, own_at A2]; exact hv) hg hs hd
theorem own_ldC (X : Stand p l e R s m args below meth c T locs cells slots) (hx : p.tables.exec = Jvm.exec) (hZ : Z.Warmed39 s.vm) (eT : T.heap = h) (A : AL Z h a .char xs) {j : Int32} (i : Nat) (hj : j.toInt = i) (hv : xs[i]? = some v) {g : JFrame} (hg : g.method = m) {rest : List Value} (hs : g.stack = .int j :: .ref a :: rest) (hd : decode c.code g.pc = .ok (.caload, 1)) :
    ∀ target, Steps p.tables e below (T.setTop { g with pc := g.pc + 1, stack := v :: rest }) target → Steps p.tables e below (T.setTop g) target := by
  obtain ⟨cl, A1, A2, A3⟩ := A
  obtain ⟨q1, q2⟩ := own_idx A2 hj (own_lt_len hv)
  exact X.caload hx (by rw [eT]; exact A1.1) (State.isArrayOf_alike hZ.alike A1.2.1) A1.2.2 q1 (by rw [q2, own_at A2]; exact hv) hg hs hd
theorem own_ldA (X : Stand p l e R s m args below meth c T locs cells slots) (hx : p.tables.exec = Jvm.exec) (hZ : Z.Warmed39 s.vm) (eT : T.heap = h) (A : AL Z h a ty xs) (hty : ty.isReference = true) {j : Int32} (i : Nat) (hj : j.toInt = i) (hv : xs[i]? = some v) {g : JFrame} (hg : g.method = m) {rest : List Value} (hs : g.stack = .int j :: .ref a :: rest) (hd : decode c.code g.pc = .ok (.aaload, 1)) :
    ∀ target, Steps p.tables e below (T.setTop { g with pc := g.pc + 1, stack := v :: rest }) target → Steps p.tables e below (T.setTop g) target := by
  obtain ⟨cl, A1, A2, A3⟩ := A
  obtain ⟨q1, q2⟩ := own_idx A2 hj (own_lt_len hv)
  exact X.aaload hx (by rw [eT]; exact A1.1) (State.isArrayOf_alike hZ.alike A1.2.1) hty A1.2.2 q1 (by rw [q2, own_at A2]; exact hv) hg hs hd
theorem own_len (X : Stand p l e R s m args below meth c T locs cells slots) (hx : p.tables.exec = Jvm.exec) (hZ : Z.Warmed39 s.vm) (eT : T.heap = h) (A : AL Z h a ty xs) {z : Int32} (hz : z.toInt = xs.length) {g : JFrame} (hg : g.method = m) {rest : List Value} (hs : g.stack = .ref a :: rest) (hd : decode c.code g.pc = .ok (.arraylength, 1)) :
    ∀ target, Steps p.tables e below (T.setTop { g with pc := g.pc + 1, stack := .int z :: rest }) target → Steps p.tables e below (T.setTop g) target := by
  obtain ⟨cl, A1, A2, A3⟩ := A
  have h2 : cl.slots.size = xs.length := by rw [← A2]; simp
  have e1 : cl.slots.size.toInt32 = z := Int32.toInt_inj.mp (by rw [len_toInt (by omega), hz, h2])
  intro target k
  exact X.arraylength hx (by rw [eT]; exact A1.1) (State.isArrayOf_alike hZ.alike A1.2.1) hg hs hd target (by rw [e1]; exact k)
end Own

theorem own_nar1 : nar .boolean (1 : Int32) = 1 := rfl
theorem own_nar0 : nar .boolean (0 : Int32) = 0 := rfl
def own_bit (x i : Int32) : Int32 := if ((x.toUInt32 >>> (i &&& 31).toUInt32).toInt32) &&& 1 = 0 then 0 else 1
def own_ws : Value → List Addr
  | .ref a => [a]
  | _ => []
def OwnN (Z : State) (h : Heap) (lo hi : Nat) (w : Value) (b : Int32) (lf rt : Value) : Prop := (b = 0 ∧ w = .null) ∨ (¬ b = 0 ∧ ∃ a : Addr, w = .ref a ∧ lo ≤ a ∧ a < hi ∧ Exa Z h a "com/example/rowan/rowan/Node" ∧ Fld Z h a "com/example/rowan/rowan/Node" "left" "Lcom/example/rowan/rowan/Node;" lf ∧ Fld Z h a "com/example/rowan/rowan/Node" "right" "Lcom/example/rowan/rowan/Node;" rt)
def OwnT (Z : State) (h : Heap) : Nat → Value → Int32 → Prop
  | 0, w, c => w = .null ∧ c = 0
  | k + 1, w, c => (w = .null ∧ c = 0) ∨ ∃ (a : Addr) (lf rt : Value) (c1 c2 : Int32), w = .ref a ∧ Fld Z h a "com/example/rowan/rowan/Node" "left" "Lcom/example/rowan/rowan/Node;" lf ∧ Fld Z h a "com/example/rowan/rowan/Node" "right" "Lcom/example/rowan/rowan/Node;" rt ∧ OwnT Z h k lf c1 ∧ OwnT Z h k rt c2 ∧ c = 1 + c1 + c2
section OwnTree
variable {Z : State} {h h' : Heap} {lo hi lo' hi' : Nat} {w w' lf rt lf' rt' : Value} {b b' : Int32} {ws : List Addr}
theorem OwnN.isRef (H : OwnN Z h lo hi w b lf rt) : w.isRef = true := by
  rcases H with ⟨-, rfl⟩ | ⟨-, a, rfl, -⟩ <;> rfl
theorem OwnN.keep (H : OwnN Z h lo hi w b lf rt) (K : Keep h h' ws) (q : ∀ a, w = .ref a → a ∉ ws) : OwnN Z h' lo hi w b lf rt := by
  rcases H with H | ⟨h0, a, h1, h2, h3, E, F, G⟩
  · exact Or.inl H
  · exact Or.inr ⟨h0, a, h1, h2, h3, E.keep K, F.keep K (q a h1), G.keep K (q a h1)⟩
theorem OwnN.apart (H : OwnN Z h lo hi w b lf rt) (H' : OwnN Z h lo' hi' w' b' lf' rt') (d : hi ≤ lo' ∨ hi' ≤ lo) : ∀ a, w = .ref a → a ∉ own_ws w' := by
  intro a e m
  rcases H with ⟨-, rfl⟩ | ⟨-, a1, rfl, h2, h3, -⟩
  · cases e
  · cases e
    rcases H' with ⟨-, rfl⟩ | ⟨-, a2, rfl, g2, g3, -⟩
    · exact nomatch m
    · have q : @Eq Nat a a2 := by simpa [own_ws] using m
      have h3' : @LT.lt Nat _ a hi := h3
      have g3' : @LT.lt Nat _ a2 hi' := g3
      have h2' : @LE.le Nat _ lo a := h2
      have g2' : @LE.le Nat _ lo' a2 := g2
      omega
theorem OwnN.wsge {n0 : Nat} (H : OwnN Z h lo hi w b lf rt) (hn : n0 ≤ lo) : ∀ x ∈ own_ws w, n0 ≤ x := by
  rcases H with ⟨-, rfl⟩ | ⟨-, a, rfl, h2, -⟩
  · exact fun x m => nomatch m
  · intro x m
    have : x = a := by simpa [own_ws] using m
    subst this; exact Nat.le_trans hn h2
theorem own_t0 : OwnT Z h 0 .null 0 := ⟨rfl, rfl⟩
theorem OwnT.isRef : ∀ {k : Nat} {w : Value} {c : Int32}, OwnT Z h k w c → w.isRef = true
  | 0, _, _, H => by obtain ⟨rfl, -⟩ := H; rfl
  | _ + 1, _, _, H => by rcases H with ⟨rfl, -⟩ | ⟨a, _, _, _, _, rfl, -⟩ <;> rfl
theorem OwnN.tree {k : Nat} {c1 c2 : Int32} (H : OwnN Z h lo hi w b lf rt) (A : OwnT Z h k lf c1) (B : OwnT Z h k rt c2) : OwnT Z h (k + 1) w (if b = 0 then 0 else 1 + c1 + c2) := by
  rcases H with ⟨h0, rfl⟩ | ⟨h0, a, rfl, h2, h3, E, F, G⟩
  · rw [if_pos h0]; exact Or.inl ⟨rfl, rfl⟩
  · rw [if_neg h0]; exact Or.inr ⟨a, lf, rt, c1, c2, rfl, F, G, A, B, rfl⟩
end OwnTree
theorem own_b01 (x i : Int32) : own_bit x i = 0 ∨ own_bit x i = 1 := by
  unfold own_bit
  by_cases c : ((x.toUInt32 >>> (i &&& 31).toUInt32).toInt32) &&& 1 = 0
  · rw [if_pos c]; exact Or.inl rfl
  · rw [if_neg c]; exact Or.inr rfl
theorem own_cache {xs : List Value} {x : Int32} (hl : xs.length = 256) (hr : ∀ w ∈ xs, w.isRef = true) (h1 : ¬ x < -128) (h2 : ¬ (127 : Int32) < x) : ∃ w, xs[(x + 128).toInt.toNat]? = some w ∧ w.isRef = true ∧ (x + 128).toInt = (x + 128).toInt.toNat := by
  have a := c_iadd x 128
  have e : (128 : Int32).toInt = 128 := rfl
  have a1 := (x + 128).toInt_lt; have a2 := (x + 128).le_toInt
  simp only [Int32.lt_iff_toInt_lt, Int32.reduceToInt] at h1 h2
  have hi : (x + 128).toInt.toNat < xs.length := by omega
  exact ⟨xs[(x + 128).toInt.toNat], List.getElem?_eq_getElem hi, hr _ (List.getElem_mem hi), by omega⟩
theorem own_sum : ∀ b0 ∈ [(0 : Int32), 1], ∀ b1 ∈ [(0 : Int32), 1], ∀ b2 ∈ [(0 : Int32), 1], ∀ b3 ∈ [(0 : Int32), 1], ∀ b4 ∈ [(0 : Int32), 1], ∀ b5 ∈ [(0 : Int32), 1], ∀ b6 ∈ [(0 : Int32), 1],
    (if b0 = 0 then 0 else 1 + (if b1 = 0 then 0 else 1 + (if b3 = 0 then 0 else 1 + 0 + 0) + (if b4 = 0 then 0 else 1 + 0 + 0)) + (if b2 = 0 then 0 else 1 + (if b5 = 0 then 0 else 1 + 0 + 0) + (if b6 = 0 then 0 else 1 + 0 + 0)) : Int32) =
    (if b0 = 0 then 0 else 1) + (if (if b0 = 0 then 0 else if b1 = 0 then 0 else 1 : Int32) = 0 then 0 else 1) + (if (if b0 = 0 then 0 else if b2 = 0 then 0 else 1 : Int32) = 0 then 0 else 1)
    + (if (if (if b0 = 0 then 0 else if b1 = 0 then 0 else 1 : Int32) = 0 then 0 else if b3 = 0 then 0 else 1 : Int32) = 0 then 0 else 1) + (if (if (if b0 = 0 then 0 else if b1 = 0 then 0 else 1 : Int32) = 0 then 0 else if b4 = 0 then 0 else 1 : Int32) = 0 then 0 else 1)
    + (if (if (if b0 = 0 then 0 else if b2 = 0 then 0 else 1 : Int32) = 0 then 0 else if b5 = 0 then 0 else 1 : Int32) = 0 then 0 else 1) + (if (if (if b0 = 0 then 0 else if b2 = 0 then 0 else 1 : Int32) = 0 then 0 else if b6 = 0 then 0 else 1 : Int32) = 0 then 0 else 1) := by decide +kernel
theorem own_mem (x i : Int32) : own_bit x i ∈ [(0 : Int32), 1] := by rcases own_b01 x i with q | q <;> rw [q] <;> simp
theorem d2_0 : decode method_2_code 0 = .ok (.iload_n 0, 1) := by decide +kernel
theorem d2_1 : decode method_2_code 1 = .ok (.iload_n 1, 1) := by decide +kernel
theorem d2_2 : decode method_2_code 2 = .ok (.iushr, 1) := by decide +kernel
theorem d2_3 : decode method_2_code 3 = .ok (.iconst 1, 1) := by decide +kernel
theorem d2_4 : decode method_2_code 4 = .ok (.iand, 1) := by decide +kernel
theorem d2_5 : decode method_2_code 5 = .ok (.ifCond .eq 7, 3) := by decide +kernel
theorem d2_8 : decode method_2_code 8 = .ok (.iconst 1, 1) := by decide +kernel
theorem d2_9 : decode method_2_code 9 = .ok (.goto 4, 3) := by decide +kernel
theorem d2_12 : decode method_2_code 12 = .ok (.iconst 0, 1) := by decide +kernel
theorem d2_13 : decode method_2_code 13 = .ok (.ireturn, 1) := by decide +kernel
theorem pn_0 : plainName "com/example/rowan/rowan/NodeCountPinLaw" = true := by first | (simp [plainName, overriddenIn]; done) | decide +kernel
theorem ef_2 (m : MethodId) (p0 : Int32) (p1 : Int32) : entryFrame m #[(.int p0), (.int p1)] 2 = mkF m 0 #[.val (.int p0), .val (.int p1)] [] := by first | (simp [entryFrame, mkF, argsToLocals, Value.category]; done) | rfl
def Q2 (Z : State) (p0 : Int32) (p1 : Int32) (h0 : Heap) (n0 : Nat) (v : Option Value) (h : Heap) (L : List Loc) : Prop := v = some (.int (own_bit p0 p1)) ∧ Fr n0 L ∧ h = h0
set_option maxRecDepth 65536 in
set_option maxHeartbeats 40000000 in
theorem rm2 (l : Launch) (Z : State) (aw : Array Value) (hw : ∀ d ∈ tables_1, d.before aw Z = true) (ws : List Jvm.Cond) (p0 : Int32) (p1 : Int32) (h0 : Heap) (n0 : Nat) (Z0 : n0 ≤ h0.size) :
    MetFree l (⟨"com/example/rowan/rowan/NodeCountPinLaw", "bit", "(II)Z"⟩ : MethodName) (head1 (Jvm.Cond.code (⟨"com/example/rowan/rowan/NodeCountPinLaw", "bit", "(II)Z"⟩ : MethodName) method_2_code 2 (some .boolean) :: ws) ({ frames := 0, cells := 0, slots := 0, locals := 0 } : Room)) (fun a U => a = #[(.int p0), (.int p1)] ∧ Z.Warmed39 U.vm ∧ U.heap = h0) (fun _ _ _ _ _ => True) (fun _ U o U' => ∃ v L, o = .returned v ∧ Q2 Z p0 p1 h0 n0 v U'.heap L ∧ FrameEnd U o U' L ({ frames := 0, cells := 0, slots := 0, locals := 0 } : Room).cells ({ frames := 0, cells := 0, slots := 0, locals := 0 } : Room).slots) := by
  refine MetFree.of_bodySF (plainFor_of_name pn_0) hisR ?_
  intro p e s m args below meth c s₁ Bd hml0 hP hK
  obtain ⟨rfl, hZ, hh⟩ := hP
  have hx := Bd.exec
  have hby := Bd.bytes
  have hml : c.maxLocals = 2 := hml0
  have hown : s.vm.findClass "com/example/rowan/rowan/NodeCountPinLaw" = some m.cls := findClass_of_methodNamed Bd.named
  have hnm := (name_of_methodNamed Bd.named Bd.method).1
  have hlk : meth.locks = false := Bd.notSynchronized
  have X0 : Stand p l e ({ frames := 0, cells := 0, slots := 0, locals := 0 } : Room) s m #[(.int p0), (.int p1)] below meth c s₁ [] 0 0 := Stand.of_body Bd
  have e0 : s₁.heap = h0 := by rw [← hh, Bd.state]; rfl
  have N0 := Fr.nil n0
  show OwnEnds p.tables e below (OwnQ s ({ frames := 0, cells := 0, slots := 0, locals := 0 } : Room).cells ({ frames := 0, cells := 0, slots := 0, locals := 0 } : Room).slots (Q2 Z p0 p1 h0 n0)) (s₁.setTop (entryFrame m #[(.int p0), (.int p1)] 2))
  refine own_via (fun t k => castTop (ef_2 m p0 p1) k) ?_
  show OwnEnds p.tables e below _ (s₁.setTop (mkF m 0 #[.val (.int p0), .val (.int p1)] []))
  refine own_via (fun t k => XS.iloadN X0.here hx rfl (hb hby d2_0) rfl k) ?_
  show OwnEnds p.tables e below _ (s₁.setTop (mkF m 1 #[.val (.int p0), .val (.int p1)] [(.int p0)]))
  refine own_via (fun t k => XS.iloadN X0.here hx rfl (hb hby d2_1) rfl k) ?_
  show OwnEnds p.tables e below _ (s₁.setTop (mkF m 2 #[.val (.int p0), .val (.int p1)] [(.int p1), (.int p0)]))
  refine own_via (fun t k => XS.iushr X0.here hx rfl (hb hby d2_2) rfl k) ?_
  show OwnEnds p.tables e below _ (s₁.setTop (mkF m 3 #[.val (.int p0), .val (.int p1)] [(.int ((p0.toUInt32 >>> (p1 &&& 31).toUInt32).toInt32))]))
  refine own_via (fun t k => XS.iconst X0.here hx rfl (hb hby d2_3) k) ?_
  show OwnEnds p.tables e below _ (s₁.setTop (mkF m 4 #[.val (.int p0), .val (.int p1)] [(.int (1 : Int32)), (.int ((p0.toUInt32 >>> (p1 &&& 31).toUInt32).toInt32))]))
  refine own_via (fun t k => XS.iand X0.here hx rfl (hb hby d2_4) rfl k) ?_
  show OwnEnds p.tables e below _ (s₁.setTop (mkF m 5 #[.val (.int p0), .val (.int p1)] [(.int (((p0.toUInt32 >>> (p1 &&& 31).toUInt32).toInt32) &&& (1 : Int32)))]))
  by_cases hc5_1 : (((p0.toUInt32 >>> (p1 &&& 31).toUInt32).toInt32) &&& (1 : Int32)) = (0 : Int32)
  · skip
    refine own_via (fun t k => XS.ifYes X0.here hx rfl (pc0 := 5) (pc' := 12) rfl (hb hby d2_5) rfl ((if0 _ _).trans (teq hc5_1).1) (by decide) (by decide) k) ?_
    show OwnEnds p.tables e below _ (s₁.setTop (mkF m 12 #[.val (.int p0), .val (.int p1)] []))
    refine own_via (fun t k => XS.iconst X0.here hx rfl (hb hby d2_12) k) ?_
    show OwnEnds p.tables e below _ (s₁.setTop (mkF m 13 #[.val (.int p0), .val (.int p1)] [(.int (0 : Int32))]))
    refine own_retN (t := .boolean) X0 hx Bd.returns (by simp) hlk (hb hby d2_13) ?_ (by decide) (by decide)
    rw [e0]
    exact ⟨congrArg (fun z => some (Value.int z)) (show nar .boolean (0 : Int32) = own_bit p0 p1 by simp only [own_bit, if_pos hc5_1, own_nar1, own_nar0]), N0, rfl⟩
  · skip
    refine own_via (fun t k => XS.ifNo X0.here hx rfl (hb hby d2_5) rfl ((if0 _ _).trans (feq hc5_1).1) k) ?_
    show OwnEnds p.tables e below _ (s₁.setTop (mkF m 8 #[.val (.int p0), .val (.int p1)] []))
    refine own_via (fun t k => XS.iconst X0.here hx rfl (hb hby d2_8) k) ?_
    show OwnEnds p.tables e below _ (s₁.setTop (mkF m 9 #[.val (.int p0), .val (.int p1)] [(.int (1 : Int32))]))
    refine own_via (fun t k => XS.goto X0.here hx rfl (pc0 := 9) (pc' := 13) rfl (hb hby d2_9) (by decide) (by decide) k) ?_
    show OwnEnds p.tables e below _ (s₁.setTop (mkF m 13 #[.val (.int p0), .val (.int p1)] [(.int (1 : Int32))]))
    refine own_retN (t := .boolean) X0 hx Bd.returns (by simp) hlk (hb hby d2_13) ?_ (by decide) (by decide)
    rw [e0]
    exact ⟨congrArg (fun z => some (Value.int z)) (show nar .boolean (1 : Int32) = own_bit p0 p1 by simp only [own_bit, if_neg hc5_1, own_nar1, own_nar0]), N0, rfl⟩
theorem d9_0 : decode jdk_18_method_1_code 0 = .ok (.aload_n 0, 1) := by decide +kernel
theorem d9_1 : decode jdk_18_method_1_code 1 = .ok (.invokespecial 1, 3) := by decide +kernel
theorem d9_4 : decode jdk_18_method_1_code 4 = .ok (.return_, 1) := by decide +kernel
theorem pn_1 : plainName "java/lang/Number" = true := by first | (simp [plainName, overriddenIn]; done) | decide +kernel
theorem ef_9 (m : MethodId) (a0 : Addr) : entryFrame m #[(.ref a0)] 1 = mkF m 0 #[.val (.ref a0)] [] := by first | (simp [entryFrame, mkF, argsToLocals, Value.category]; done) | rfl
def Q9 (Z : State) (a0 : Addr) (h0 : Heap) (n0 : Nat) (v : Option Value) (h : Heap) (L : List Loc) : Prop := v = none ∧ Fr n0 L ∧ h = h0
set_option maxRecDepth 65536 in
set_option maxHeartbeats 40000000 in
theorem rm9 (l : Launch) (Z : State) (aw : Array Value) (hw : ∀ d ∈ tables_1, d.before aw Z = true) (ws : List Jvm.Cond) (a0 : Addr) (h0 : Heap) (n0 : Nat) (Z0 : n0 ≤ h0.size) :
    MetFree l (⟨"java/lang/Number", "<init>", "()V"⟩ : MethodName) (head1 (Jvm.Cond.code (⟨"java/lang/Number", "<init>", "()V"⟩ : MethodName) jdk_18_method_1_code 1 none :: ws) ({ frames := 1, cells := 0, slots := 0, locals := 12 } : Room)) (fun a U => a = #[(.ref a0)] ∧ Z.Warmed39 U.vm ∧ U.heap = h0) (fun _ _ _ _ _ => True) (fun _ U o U' => ∃ v L, o = .returned v ∧ Q9 Z a0 h0 n0 v U'.heap L ∧ FrameEnd U o U' L ({ frames := 1, cells := 0, slots := 0, locals := 12 } : Room).cells ({ frames := 1, cells := 0, slots := 0, locals := 12 } : Room).slots) := by
  refine MetFree.of_bodySF (plainFor_of_name pn_1) hisR ?_
  intro p e s m args below meth c s₁ Bd hml0 hP hK
  obtain ⟨rfl, hZ, hh⟩ := hP
  have hx := Bd.exec
  have hby := Bd.bytes
  have hml : c.maxLocals = 1 := hml0
  have hown : s.vm.findClass "java/lang/Number" = some m.cls := findClass_of_methodNamed Bd.named
  have hnm := (name_of_methodNamed Bd.named Bd.method).1
  have hlk : meth.locks = false := Bd.notSynchronized
  have X0 : Stand p l e ({ frames := 1, cells := 0, slots := 0, locals := 12 } : Room) s m #[(.ref a0)] below meth c s₁ [] 0 0 := Stand.of_body Bd
  have e0 : s₁.heap = h0 := by rw [← hh, Bd.state]; rfl
  have N0 := Fr.nil n0
  show OwnEnds p.tables e below (OwnQ s ({ frames := 1, cells := 0, slots := 0, locals := 12 } : Room).cells ({ frames := 1, cells := 0, slots := 0, locals := 12 } : Room).slots (Q9 Z a0 h0 n0)) (s₁.setTop (entryFrame m #[(.ref a0)] 1))
  refine own_via (fun t k => castTop (ef_9 m a0) k) ?_
  show OwnEnds p.tables e below _ (s₁.setTop (mkF m 0 #[.val (.ref a0)] []))
  refine own_via (fun t k => XS.aloadN X0.here hx rfl (hb hby d9_0) rfl rfl k) ?_
  show OwnEnds p.tables e below _ (s₁.setTop (mkF m 1 #[.val (.ref a0)] [(.ref a0)]))
  obtain ⟨T1, X1, e1, st1⟩ := initO X0 hx hZ hown (hw _ (List.mem_of_getElem? (i := 52) rfl)) (hw _ (List.mem_of_getElem? (i := 27) rfl)) (hw _ (List.mem_of_getElem? (i := 28) rfl)) e0 (g := (mkF m 1 #[.val (.ref a0)] [(.ref a0)])) rfl (by rw [hml]; rfl) rfl (hb hby d9_1) (by decide) (W := 0) (by show 2 * 0 + _ ≤ _; exact Nat.le_of_eq rfl) (by decide)
  refine own_via st1 ?_
  show OwnEnds p.tables e below _ (T1.setTop (mkF m 4 #[.val (.ref a0)] []))
  refine own_retV X1 hx Bd.returns hlk (hb hby d9_4) ?_ (by decide) (by decide)
  rw [e1]
  exact ⟨rfl, N0, rfl⟩
theorem d8_0 : decode jdk_33_method_23_code 0 = .ok (.aload_n 0, 1) := by decide +kernel
theorem d8_1 : decode jdk_33_method_23_code 1 = .ok (.invokespecial 202, 3) := by decide +kernel
theorem d8_4 : decode jdk_33_method_23_code 4 = .ok (.aload_n 0, 1) := by decide +kernel
theorem d8_5 : decode jdk_33_method_23_code 5 = .ok (.iload_n 1, 1) := by decide +kernel
theorem d8_6 : decode jdk_33_method_23_code 6 = .ok (.putfield 205, 3) := by decide +kernel
theorem d8_9 : decode jdk_33_method_23_code 9 = .ok (.return_, 1) := by decide +kernel
theorem pn_2 : plainName "java/lang/Integer" = true := by first | (simp [plainName, overriddenIn]; done) | decide +kernel
theorem ef_8 (m : MethodId) (a0 : Addr) (p1 : Int32) : entryFrame m #[(.ref a0), (.int p1)] 2 = mkF m 0 #[.val (.ref a0), .val (.int p1)] [] := by first | (simp [entryFrame, mkF, argsToLocals, Value.category]; done) | rfl
def Q8 (Z : State) (a0 : Addr) (p1 : Int32) (h0 : Heap) (n0 : Nat) (v : Option Value) (h : Heap) (L : List Loc) : Prop := v = none ∧ Fr n0 L ∧ Keep h0 h [a0]
theorem pd_0 : parseMethodDescriptor "()V" = some ⟨[], none⟩ := by decide +kernel
set_option maxRecDepth 65536 in
set_option maxHeartbeats 40000000 in
theorem rm8 (l : Launch) (Z : State) (aw : Array Value) (hw : ∀ d ∈ tables_1, d.before aw Z = true) (ws : List Jvm.Cond) (a0 : Addr) (p1 : Int32) (h0 : Heap) (n0 : Nat) (Z0 : n0 ≤ h0.size) (E_a0 : Exa Z h0 a0 "java/lang/Integer") (F_value_a0 : Fld Z h0 a0 "java/lang/Integer" "value" "I" (.int (0 : Int32))) (g_a0 : n0 ≤ a0) :
    MetFree l (⟨"java/lang/Integer", "<init>", "(I)V"⟩ : MethodName) (head1 (Jvm.Cond.code (⟨"java/lang/Integer", "<init>", "(I)V"⟩ : MethodName) jdk_33_method_23_code 2 none :: ws) ({ frames := 2, cells := 0, slots := 0, locals := 24 } : Room)) (fun a U => a = #[(.ref a0), (.int p1)] ∧ Z.Warmed39 U.vm ∧ U.heap = h0) (fun _ _ _ _ _ => True) (fun _ U o U' => ∃ v L, o = .returned v ∧ Q8 Z a0 p1 h0 n0 v U'.heap L ∧ FrameEnd U o U' L ({ frames := 2, cells := 0, slots := 0, locals := 24 } : Room).cells ({ frames := 2, cells := 0, slots := 0, locals := 24 } : Room).slots) := by
  refine MetFree.of_bodySF (plainFor_of_name pn_2) hisR ?_
  intro p e s m args below meth c s₁ Bd hml0 hP hK
  obtain ⟨rfl, hZ, hh⟩ := hP
  have hx := Bd.exec
  have hby := Bd.bytes
  have hml : c.maxLocals = 2 := hml0
  have hown : s.vm.findClass "java/lang/Integer" = some m.cls := findClass_of_methodNamed Bd.named
  have hnm := (name_of_methodNamed Bd.named Bd.method).1
  have hlk : meth.locks = false := Bd.notSynchronized
  have X0 : Stand p l e ({ frames := 2, cells := 0, slots := 0, locals := 24 } : Room) s m #[(.ref a0), (.int p1)] below meth c s₁ [] 0 0 := Stand.of_body Bd
  have e0 : s₁.heap = h0 := by rw [← hh, Bd.state]; rfl
  have N0 := Fr.nil n0
  show OwnEnds p.tables e below (OwnQ s ({ frames := 2, cells := 0, slots := 0, locals := 24 } : Room).cells ({ frames := 2, cells := 0, slots := 0, locals := 24 } : Room).slots (Q8 Z a0 p1 h0 n0)) (s₁.setTop (entryFrame m #[(.ref a0), (.int p1)] 2))
  refine own_via (fun t k => castTop (ef_8 m a0 p1) k) ?_
  show OwnEnds p.tables e below _ (s₁.setTop (mkF m 0 #[.val (.ref a0), .val (.int p1)] []))
  have K0 : Keep h0 h0 [a0] := Keep.refl _ _
  refine own_via (fun t k => XS.aloadN X0.here hx rfl (hb hby d8_0) rfl rfl k) ?_
  show OwnEnds p.tables e below _ (s₁.setTop (mkF m 1 #[.val (.ref a0), .val (.int p1)] [(.ref a0)]))
  obtain ⟨_, _, ⟨T1, L1, k1, n1⟩, -, X1, ⟨Lc1, hQ1, l1, y1, z1⟩, st1⟩ := X0.specialBack hx (y := (⟨"java/lang/Number", "<init>", "()V"⟩ : MethodName)) rfl hown (mvT hZ (hw _ (List.mem_of_getElem? (i := 46) rfl))) (mvT hZ (hw _ (List.mem_of_getElem? (i := 47) rfl))) (mvT hZ (hw _ (List.mem_of_getElem? (i := 51) rfl))) (by decide) (backOf (W := 0) (rm9 l Z aw hw [] a0 h0 n0 Z0 ) hZ (hw _ (List.mem_of_getElem? (i := 51) rfl)) (hw _ (List.mem_of_getElem? (i := 50) rfl)) (by decide) (by decide)) (g := (mkF m 1 #[.val (.ref a0), .val (.int p1)] [(.ref a0)])) rfl (by rw [hml]; rfl) (Steps.refl _) (a := a0) (argsL := []) (rest := []) (lenOf pd_0 rfl) rfl (by show 2 * 0 + _ ≤ _; exact Nat.le_of_eq rfl) (hb hby d8_1) (fun _ _ => ⟨rfl, e0, (by decide : 0 + 0 ≤ _), (by decide : 0 + 0 ≤ _)⟩)
  dsimp only [Pt.U, Pt.locs, Pt.cells, Pt.slots] at X1 l1 y1 z1 st1 hQ1
  subst l1 y1 z1
  obtain ⟨rfl, Nq1, e1⟩ := hQ1
  have N1 := Fr.app N0 Nq1
  replace e1 : T1.heap = h0 := e1
  refine own_of st1 ?_
  show OwnEnds p.tables e below _ (T1.setTop (mkF m 4 #[.val (.ref a0), .val (.int p1)] []))
  refine own_via (fun t k => XS.aloadN X1.here hx rfl (hb hby d8_4) rfl rfl k) ?_
  show OwnEnds p.tables e below _ (T1.setTop (mkF m 5 #[.val (.ref a0), .val (.int p1)] [(.ref a0)]))
  refine own_via (fun t k => XS.iloadN X1.here hx rfl (hb hby d8_5) rfl k) ?_
  show OwnEnds p.tables e below _ (T1.setTop (mkF m 6 #[.val (.ref a0), .val (.int p1)] [(.int p1), (.ref a0)]))
  obtain ⟨T2, h2, X2, e2, W2, st2⟩ := putF X1 hx hZ hown (host := "") (Or.inl (hw _ (List.mem_of_getElem? (i := 53) rfl))) Via.refl e1 F_value_a0 E_a0 (Or.inr ⟨(hw _ (List.mem_of_getElem? (i := 54) rfl)), rfl, hnm⟩) (hw _ (List.mem_of_getElem? (i := 41) rfl)) (ty := .int) (by decide) rfl rfl (g := (mkF m 6 #[.val (.ref a0), .val (.int p1)] [(.int p1), (.ref a0)])) rfl rfl (hb hby d8_6)
  replace E_a0 := E_a0.wr W2
  replace F_value_a0 := F_value_a0.same W2
  replace K0 := K0.wr W2 (Or.inl (List.mem_of_getElem? (i := 0) rfl))
  have Zs_W2 : n0 ≤ _ := Nat.le_trans Z0 (Keep.of_wr W2).1
  have N2 := Fr.snoc X2 N1 g_a0
  refine own_via st2 ?_
  show OwnEnds p.tables e below _ (T2.setTop (mkF m 9 #[.val (.ref a0), .val (.int p1)] []))
  refine own_retV X2 hx Bd.returns hlk (hb hby d8_9) ?_ (by decide) (by decide)
  rw [e2]
  exact ⟨rfl, N2, K0⟩
theorem d5_0 : decode jdk_33_method_22_code 0 = .ok (.iload_n 0, 1) := by decide +kernel
theorem d5_1 : decode jdk_33_method_22_code 1 = .ok (.bipush (-128), 2) := by decide +kernel
theorem d5_3 : decode jdk_33_method_22_code 3 = .ok (.if_icmp .lt 20, 3) := by decide +kernel
theorem d5_6 : decode jdk_33_method_22_code 6 = .ok (.iload_n 0, 1) := by decide +kernel
theorem d5_7 : decode jdk_33_method_22_code 7 = .ok (.getstatic 191, 3) := by decide +kernel
theorem d5_10 : decode jdk_33_method_22_code 10 = .ok (.if_icmp .gt 13, 3) := by decide +kernel
theorem d5_13 : decode jdk_33_method_22_code 13 = .ok (.getstatic 195, 3) := by decide +kernel
theorem d5_16 : decode jdk_33_method_22_code 16 = .ok (.iload_n 0, 1) := by decide +kernel
theorem d5_17 : decode jdk_33_method_22_code 17 = .ok (.sipush 128, 3) := by decide +kernel
theorem d5_20 : decode jdk_33_method_22_code 20 = .ok (.iadd, 1) := by decide +kernel
theorem d5_21 : decode jdk_33_method_22_code 21 = .ok (.aaload, 1) := by decide +kernel
theorem d5_22 : decode jdk_33_method_22_code 22 = .ok (.areturn, 1) := by decide +kernel
theorem d5_23 : decode jdk_33_method_22_code 23 = .ok (.new 1, 3) := by decide +kernel
theorem d5_26 : decode jdk_33_method_22_code 26 = .ok (.dup, 1) := by decide +kernel
theorem d5_27 : decode jdk_33_method_22_code 27 = .ok (.iload_n 0, 1) := by decide +kernel
theorem d5_28 : decode jdk_33_method_22_code 28 = .ok (.invokespecial 199, 3) := by decide +kernel
theorem d5_31 : decode jdk_33_method_22_code 31 = .ok (.areturn, 1) := by decide +kernel
theorem ef_5 (m : MethodId) (p0 : Int32) : entryFrame m #[(.int p0)] 1 = mkF m 0 #[.val (.int p0)] [] := by first | (simp [entryFrame, mkF, argsToLocals, Value.category]; done) | rfl
def Q5 (Z : State) (p0 : Int32) (ca : Addr) (cx : List Value) (h0 : Heap) (n0 : Nat) (v : Option Value) (h : Heap) (L : List Loc) : Prop := ∃ w : Value, v = some w ∧ Fr n0 L ∧ Keep h0 h [] ∧ w.isRef = true
theorem pd_1 : parseMethodDescriptor "(I)V" = some ⟨[.int], none⟩ := by decide +kernel
set_option maxRecDepth 65536 in
set_option maxHeartbeats 40000000 in
theorem rm5 (l : Launch) (Z : State) (aw : Array Value) (hw : ∀ d ∈ tables_1, d.before aw Z = true) (ws : List Jvm.Cond) (p0 : Int32) (ca : Addr) (cx : List Value) (h0 : Heap) (n0 : Nat) (Z0 : n0 ≤ h0.size) (S_high : Sta Z Z.heap "java/lang/Integer$IntegerCache" "high" "I" (.int (127 : Int32))) (S_cache : Sta Z Z.heap "java/lang/Integer$IntegerCache" "cache" "[Ljava/lang/Integer;" (.ref ca)) (A_ca : AL Z Z.heap ca (.object "java/lang/Integer") cx) (hcl : cx.length = 256) (hcr : ∀ w ∈ cx, w.isRef = true) (O0 : Old Z n0 h0) :
    MetFree l (⟨"java/lang/Integer", "valueOf", "(I)Ljava/lang/Integer;"⟩ : MethodName) (head1 (Jvm.Cond.code (⟨"java/lang/Integer", "valueOf", "(I)Ljava/lang/Integer;"⟩ : MethodName) jdk_33_method_22_code 1 (some (.object "java/lang/Integer")) :: ws) ({ frames := 3, cells := 1, slots := 1, locals := 38 } : Room)) (fun a U => a = #[(.int p0)] ∧ Z.Warmed39 U.vm ∧ U.heap = h0) (fun _ _ _ _ _ => True) (fun _ U o U' => ∃ v L, o = .returned v ∧ Q5 Z p0 ca cx h0 n0 v U'.heap L ∧ FrameEnd U o U' L ({ frames := 3, cells := 1, slots := 1, locals := 38 } : Room).cells ({ frames := 3, cells := 1, slots := 1, locals := 38 } : Room).slots) := by
  refine MetFree.of_bodySF (plainFor_of_name pn_2) hisR ?_
  intro p e s m args below meth c s₁ Bd hml0 hP hK
  obtain ⟨rfl, hZ, hh⟩ := hP
  have hx := Bd.exec
  have hby := Bd.bytes
  have hml : c.maxLocals = 1 := hml0
  have hown : s.vm.findClass "java/lang/Integer" = some m.cls := findClass_of_methodNamed Bd.named
  have hnm := (name_of_methodNamed Bd.named Bd.method).1
  have hlk : meth.locks = false := Bd.notSynchronized
  have X0 : Stand p l e ({ frames := 3, cells := 1, slots := 1, locals := 38 } : Room) s m #[(.int p0)] below meth c s₁ [] 0 0 := Stand.of_body Bd
  have e0 : s₁.heap = h0 := by rw [← hh, Bd.state]; rfl
  have N0 := Fr.nil n0
  show OwnEnds p.tables e below (OwnQ s ({ frames := 3, cells := 1, slots := 1, locals := 38 } : Room).cells ({ frames := 3, cells := 1, slots := 1, locals := 38 } : Room).slots (Q5 Z p0 ca cx h0 n0)) (s₁.setTop (entryFrame m #[(.int p0)] 1))
  refine own_via (fun t k => castTop (ef_5 m p0) k) ?_
  show OwnEnds p.tables e below _ (s₁.setTop (mkF m 0 #[.val (.int p0)] []))
  have K0 : Keep h0 h0 [] := Keep.refl _ _
  refine own_via (fun t k => XS.iloadN X0.here hx rfl (hb hby d5_0) rfl k) ?_
  show OwnEnds p.tables e below _ (s₁.setTop (mkF m 1 #[.val (.int p0)] [(.int p0)]))
  refine own_via (fun t k => XS.bipush X0.here hx rfl (hb hby d5_1) k) ?_
  show OwnEnds p.tables e below _ (s₁.setTop (mkF m 3 #[.val (.int p0)] [(.int (-128 : Int32)), (.int p0)]))
  by_cases hc3_1 : p0 < (-128 : Int32)
  · skip
    refine own_via (fun t k => XS.icmpYes X0.here hx rfl (pc0 := 3) (pc' := 23) rfl (hb hby d5_3) rfl (tlt hc3_1).1 (by decide) (by decide) k) ?_
    show OwnEnds p.tables e below _ (s₁.setTop (mkF m 23 #[.val (.int p0)] []))
    obtain ⟨T2, h2, X2, e2, E2, A2, D2, -, st2⟩ := newO X0 hx hZ hown (hw _ (List.mem_of_getElem? (i := 40) rfl)) (hw _ (List.mem_of_getElem? (i := 41) rfl)) (hw _ (List.mem_of_getElem? (i := 18) rfl)) e0 (g := (mkF m 23 #[.val (.int p0)] [])) rfl (hb hby d5_23) (by decide) (by decide)
    obtain ⟨b2, g2⟩ : ∃ z, z = h0.size := ⟨_, rfl⟩
    rw [← g2] at A2 D2 st2
    have g_b2 : n0 ≤ b2 := Nat.le_trans Z0 (Nat.le_of_eq g2.symm)
    have sz_b2 : h0.size ≤ b2 := Nat.le_trans K0.1 (Nat.le_of_eq g2.symm)
    have Zs_2 : n0 ≤ _ := Nat.le_trans Z0 E2.1
    replace K0 := K0.ext E2
    replace O0 := O0.ext E2
    have E_b2 := A2
    have F_value_b2 : Fld Z h2 b2 "java/lang/Integer" "value" "I" (.int (0 : Int32)) := D2 (Or.inr (hw _ (List.mem_of_getElem? (i := 54) rfl))) (ty := .int) (by decide)
    refine own_via st2 ?_
    show OwnEnds p.tables e below _ (T2.setTop (mkF m 26 #[.val (.int p0)] [(.ref b2)]))
    refine own_via (fun t k => XS.dup X2.here hx rfl (hb hby d5_26) rfl rfl k) ?_
    show OwnEnds p.tables e below _ (T2.setTop (mkF m 27 #[.val (.int p0)] [(.ref b2), (.ref b2)]))
    refine own_via (fun t k => XS.iloadN X2.here hx rfl (hb hby d5_27) rfl k) ?_
    show OwnEnds p.tables e below _ (T2.setTop (mkF m 28 #[.val (.int p0)] [(.int p0), (.ref b2), (.ref b2)]))
    obtain ⟨_, _, ⟨T3, L3, k3, n3⟩, -, X3, ⟨Lc3, hQ3, l3, y3, z3⟩, st3⟩ := X2.specialBack hx (y := (⟨"java/lang/Integer", "<init>", "(I)V"⟩ : MethodName)) rfl hown (mvT hZ (hw _ (List.mem_of_getElem? (i := 42) rfl))) (mvT hZ (hw _ (List.mem_of_getElem? (i := 43) rfl))) (mvT hZ (hw _ (List.mem_of_getElem? (i := 45) rfl))) (by decide) (backOf (W := 1) (rm8 l Z aw hw [] b2 p0 h2 n0 Zs_2 E_b2 F_value_b2 g_b2) hZ (hw _ (List.mem_of_getElem? (i := 45) rfl)) (hw _ (List.mem_of_getElem? (i := 18) rfl)) (by decide) (by decide)) (g := (mkF m 28 #[.val (.int p0)] [(.int p0), (.ref b2), (.ref b2)])) rfl (by rw [hml]; rfl) (Steps.refl _) (a := b2) (argsL := [(.int p0)]) (rest := [(.ref b2)]) (lenOf pd_1 rfl) rfl (by show 2 * 0 + _ ≤ _; exact Nat.le_of_eq rfl) (hb hby d5_28) (fun _ _ => ⟨rfl, e2, (by decide : 1 + 0 ≤ _), (by decide : 1 + 0 ≤ _)⟩)
    dsimp only [Pt.U, Pt.locs, Pt.cells, Pt.slots] at X3 l3 y3 z3 st3 hQ3
    subst l3 y3 z3
    obtain ⟨h3, e3⟩ : ∃ z, T3.heap = z := ⟨_, rfl⟩
    rw [e3] at hQ3
    obtain ⟨rfl, Nq3, K3⟩ := hQ3
    have N3 := Fr.app N0 Nq3
    replace E_b2 := E_b2.keep K3
    replace K0 := K0.trans K3 (allS (Or.inr sz_b2) all0)
    replace O0 := O0.keep K3 (allS g_b2 all0)
    have Zs_3 : n0 ≤ _ := Nat.le_trans Zs_2 K3.1
    refine own_of st3 ?_
    show OwnEnds p.tables e below _ (T3.setTop (mkF m 31 #[.val (.int p0)] [(.ref b2)]))
    refine own_retA X3 hx Bd.returns rfl rfl hlk (hb hby d5_31) ?_ (by decide) (by decide)
    rw [e3]
    exact ⟨_, rfl, N3, K0, rfl⟩
  · skip
    refine own_via (fun t k => XS.icmpNo X0.here hx rfl (hb hby d5_3) rfl (flt hc3_1).1 k) ?_
    show OwnEnds p.tables e below _ (s₁.setTop (mkF m 6 #[.val (.int p0)] []))
    refine own_via (fun t k => XS.iloadN X0.here hx rfl (hb hby d5_6) rfl k) ?_
    show OwnEnds p.tables e below _ (s₁.setTop (mkF m 7 #[.val (.int p0)] [(.int p0)]))
    obtain ⟨T4, X4, e4, st4⟩ := getS2 X0 hx hZ hown (host := "") (Or.inl (hw _ (List.mem_of_getElem? (i := 20) rfl))) Via.refl e0 (S_high.ext O0.2) (g := (mkF m 7 #[.val (.int p0)] [(.int p0)])) rfl (hb hby d5_7)
    refine own_via st4 ?_
    show OwnEnds p.tables e below _ (T4.setTop (mkF m 10 #[.val (.int p0)] [(.int (127 : Int32)), (.int p0)]))
    by_cases hc10_5 : (127 : Int32) < p0
    · skip
      refine own_via (fun t k => XS.icmpYes X4.here hx rfl (pc0 := 10) (pc' := 23) rfl (hb hby d5_10) rfl (tlt hc10_5).2.2.1 (by decide) (by decide) k) ?_
      show OwnEnds p.tables e below _ (T4.setTop (mkF m 23 #[.val (.int p0)] []))
      obtain ⟨T6, h6, X6, e6, E6, A6, D6, -, st6⟩ := newO X4 hx hZ hown (hw _ (List.mem_of_getElem? (i := 40) rfl)) (hw _ (List.mem_of_getElem? (i := 41) rfl)) (hw _ (List.mem_of_getElem? (i := 18) rfl)) e4 (g := (mkF m 23 #[.val (.int p0)] [])) rfl (hb hby d5_23) (by decide) (by decide)
      obtain ⟨b6, g6⟩ : ∃ z, z = h0.size := ⟨_, rfl⟩
      rw [← g6] at A6 D6 st6
      have g_b6 : n0 ≤ b6 := Nat.le_trans Z0 (Nat.le_of_eq g6.symm)
      have sz_b6 : h0.size ≤ b6 := Nat.le_trans K0.1 (Nat.le_of_eq g6.symm)
      have Zs_6 : n0 ≤ _ := Nat.le_trans Z0 E6.1
      replace K0 := K0.ext E6
      replace O0 := O0.ext E6
      have E_b6 := A6
      have F_value_b6 : Fld Z h6 b6 "java/lang/Integer" "value" "I" (.int (0 : Int32)) := D6 (Or.inr (hw _ (List.mem_of_getElem? (i := 54) rfl))) (ty := .int) (by decide)
      refine own_via st6 ?_
      show OwnEnds p.tables e below _ (T6.setTop (mkF m 26 #[.val (.int p0)] [(.ref b6)]))
      refine own_via (fun t k => XS.dup X6.here hx rfl (hb hby d5_26) rfl rfl k) ?_
      show OwnEnds p.tables e below _ (T6.setTop (mkF m 27 #[.val (.int p0)] [(.ref b6), (.ref b6)]))
      refine own_via (fun t k => XS.iloadN X6.here hx rfl (hb hby d5_27) rfl k) ?_
      show OwnEnds p.tables e below _ (T6.setTop (mkF m 28 #[.val (.int p0)] [(.int p0), (.ref b6), (.ref b6)]))
      obtain ⟨_, _, ⟨T7, L7, k7, n7⟩, -, X7, ⟨Lc7, hQ7, l7, y7, z7⟩, st7⟩ := X6.specialBack hx (y := (⟨"java/lang/Integer", "<init>", "(I)V"⟩ : MethodName)) rfl hown (mvT hZ (hw _ (List.mem_of_getElem? (i := 42) rfl))) (mvT hZ (hw _ (List.mem_of_getElem? (i := 43) rfl))) (mvT hZ (hw _ (List.mem_of_getElem? (i := 45) rfl))) (by decide) (backOf (W := 1) (rm8 l Z aw hw [] b6 p0 h6 n0 Zs_6 E_b6 F_value_b6 g_b6) hZ (hw _ (List.mem_of_getElem? (i := 45) rfl)) (hw _ (List.mem_of_getElem? (i := 18) rfl)) (by decide) (by decide)) (g := (mkF m 28 #[.val (.int p0)] [(.int p0), (.ref b6), (.ref b6)])) rfl (by rw [hml]; rfl) (Steps.refl _) (a := b6) (argsL := [(.int p0)]) (rest := [(.ref b6)]) (lenOf pd_1 rfl) rfl (by show 2 * 0 + _ ≤ _; exact Nat.le_of_eq rfl) (hb hby d5_28) (fun _ _ => ⟨rfl, e6, (by decide : 1 + 0 ≤ _), (by decide : 1 + 0 ≤ _)⟩)
      dsimp only [Pt.U, Pt.locs, Pt.cells, Pt.slots] at X7 l7 y7 z7 st7 hQ7
      subst l7 y7 z7
      obtain ⟨h7, e7⟩ : ∃ z, T7.heap = z := ⟨_, rfl⟩
      rw [e7] at hQ7
      obtain ⟨rfl, Nq7, K7⟩ := hQ7
      have N7 := Fr.app N0 Nq7
      replace E_b6 := E_b6.keep K7
      replace K0 := K0.trans K7 (allS (Or.inr sz_b6) all0)
      replace O0 := O0.keep K7 (allS g_b6 all0)
      have Zs_7 : n0 ≤ _ := Nat.le_trans Zs_6 K7.1
      refine own_of st7 ?_
      show OwnEnds p.tables e below _ (T7.setTop (mkF m 31 #[.val (.int p0)] [(.ref b6)]))
      refine own_retA X7 hx Bd.returns rfl rfl hlk (hb hby d5_31) ?_ (by decide) (by decide)
      rw [e7]
      exact ⟨_, rfl, N7, K0, rfl⟩
    · skip
      refine own_via (fun t k => XS.icmpNo X4.here hx rfl (hb hby d5_10) rfl (flt hc10_5).2.2.1 k) ?_
      show OwnEnds p.tables e below _ (T4.setTop (mkF m 13 #[.val (.int p0)] []))
      obtain ⟨T8, X8, e8, st8⟩ := getS2 X4 hx hZ hown (host := "") (Or.inl (hw _ (List.mem_of_getElem? (i := 22) rfl))) Via.refl e4 (S_cache.ext O0.2) (g := (mkF m 13 #[.val (.int p0)] [])) rfl (hb hby d5_13)
      refine own_via st8 ?_
      show OwnEnds p.tables e below _ (T8.setTop (mkF m 16 #[.val (.int p0)] [(.ref ca)]))
      refine own_via (fun t k => XS.iloadN X8.here hx rfl (hb hby d5_16) rfl k) ?_
      show OwnEnds p.tables e below _ (T8.setTop (mkF m 17 #[.val (.int p0)] [(.int p0), (.ref ca)]))
      refine own_via (fun t k => XS.sipush X8.here hx rfl (hb hby d5_17) k) ?_
      show OwnEnds p.tables e below _ (T8.setTop (mkF m 20 #[.val (.int p0)] [(.int (128 : Int32)), (.int p0), (.ref ca)]))
      refine own_via (fun t k => XS.iadd X8.here hx rfl (hb hby d5_20) rfl k) ?_
      show OwnEnds p.tables e below _ (T8.setTop (mkF m 21 #[.val (.int p0)] [(.int (p0 + (128 : Int32))), (.ref ca)]))
      obtain ⟨cw, hcw, hr_cw, hcj⟩ := own_cache hcl hcr hc3_1 hc10_5
      refine own_via (own_ldA X8 hx hZ e8 (A_ca.ext O0.2) rfl (v := cw) _ hcj hcw (g := (mkF m 21 #[.val (.int p0)] [(.int (p0 + (128 : Int32))), (.ref ca)])) rfl rfl (hb hby d5_21)) ?_
      show OwnEnds p.tables e below _ (T8.setTop (mkF m 22 #[.val (.int p0)] [cw]))
      refine own_retA X8 hx Bd.returns rfl hr_cw hlk (hb hby d5_22) ?_ (by decide) (by decide)
      rw [e8]
      exact ⟨_, rfl, N0, K0, hr_cw⟩
theorem d6_0 : decode prog_16_method_1_code 0 = .ok (.aload_n 0, 1) := by decide +kernel
theorem d6_1 : decode prog_16_method_1_code 1 = .ok (.invokespecial 1, 3) := by decide +kernel
theorem d6_4 : decode prog_16_method_1_code 4 = .ok (.aload_n 0, 1) := by decide +kernel
theorem d6_5 : decode prog_16_method_1_code 5 = .ok (.aload_n 1, 1) := by decide +kernel
theorem d6_6 : decode prog_16_method_1_code 6 = .ok (.putfield 7, 3) := by decide +kernel
theorem d6_9 : decode prog_16_method_1_code 9 = .ok (.aload_n 0, 1) := by decide +kernel
theorem d6_10 : decode prog_16_method_1_code 10 = .ok (.aload_n 2, 1) := by decide +kernel
theorem d6_11 : decode prog_16_method_1_code 11 = .ok (.putfield 13, 3) := by decide +kernel
theorem d6_14 : decode prog_16_method_1_code 14 = .ok (.aload_n 0, 1) := by decide +kernel
theorem d6_15 : decode prog_16_method_1_code 15 = .ok (.iconst 1, 1) := by decide +kernel
theorem d6_16 : decode prog_16_method_1_code 16 = .ok (.putfield 16, 3) := by decide +kernel
theorem d6_19 : decode prog_16_method_1_code 19 = .ok (.return_, 1) := by decide +kernel
theorem pn_3 : plainName "com/example/rowan/rowan/Node" = true := by first | (simp [plainName, overriddenIn]; done) | decide +kernel
theorem ef_6 (m : MethodId) (a0 : Addr) (w1 : Value) (w2 : Value) (hr_w1 : w1.isRef = true) (hr_w2 : w2.isRef = true) : entryFrame m #[(.ref a0), w1, w2] 3 = mkF m 0 #[.val (.ref a0), .val w1, .val w2] [] := by
  rcases ref_cases hr_w1 with rfl | ⟨w1', rfl⟩ <;> rcases ref_cases hr_w2 with rfl | ⟨w2', rfl⟩ <;> first | (simp [entryFrame, mkF, argsToLocals, Value.category]; done) | rfl
def Q6 (Z : State) (a0 : Addr) (w1 : Value) (w2 : Value) (h0 : Heap) (n0 : Nat) (v : Option Value) (h : Heap) (L : List Loc) : Prop := v = none ∧ Fr n0 L ∧ Keep h0 h [a0] ∧ Exa Z h a0 "com/example/rowan/rowan/Node" ∧ Fld Z h a0 "com/example/rowan/rowan/Node" "left" "Lcom/example/rowan/rowan/Node;" .null ∧ Fld Z h a0 "com/example/rowan/rowan/Node" "right" "Lcom/example/rowan/rowan/Node;" .null ∧ Fld Z h a0 "com/example/rowan/rowan/Node" "red" "Z" (.int (1 : Int32))
set_option maxRecDepth 65536 in
set_option maxHeartbeats 40000000 in
theorem rm6 (l : Launch) (Z : State) (aw : Array Value) (hw : ∀ d ∈ tables_1, d.before aw Z = true) (ws : List Jvm.Cond) (a0 : Addr) (w1 : Value) (w2 : Value) (h0 : Heap) (n0 : Nat) (Z0 : n0 ≤ h0.size) (E_a0 : Exa Z h0 a0 "com/example/rowan/rowan/Node") (F_key_a0 : Fld Z h0 a0 "com/example/rowan/rowan/Node" "key" "Ljava/lang/Object;" .null) (F_value_a0 : Fld Z h0 a0 "com/example/rowan/rowan/Node" "value" "Ljava/lang/Object;" .null) (F_left_a0 : Fld Z h0 a0 "com/example/rowan/rowan/Node" "left" "Lcom/example/rowan/rowan/Node;" .null) (F_right_a0 : Fld Z h0 a0 "com/example/rowan/rowan/Node" "right" "Lcom/example/rowan/rowan/Node;" .null) (F_red_a0 : Fld Z h0 a0 "com/example/rowan/rowan/Node" "red" "Z" (.int (0 : Int32))) (g_a0 : n0 ≤ a0) (hr_w1 : w1.isRef = true) (hr_w2 : w2.isRef = true) :
    MetFree l (⟨"com/example/rowan/rowan/Node", "<init>", "(Ljava/lang/Object;Ljava/lang/Object;)V"⟩ : MethodName) (head1 (Jvm.Cond.code (⟨"com/example/rowan/rowan/Node", "<init>", "(Ljava/lang/Object;Ljava/lang/Object;)V"⟩ : MethodName) prog_16_method_1_code 3 none :: ws) ({ frames := 1, cells := 0, slots := 0, locals := 12 } : Room)) (fun a U => a = #[(.ref a0), w1, w2] ∧ Z.Warmed39 U.vm ∧ U.heap = h0) (fun _ _ _ _ _ => True) (fun _ U o U' => ∃ v L, o = .returned v ∧ Q6 Z a0 w1 w2 h0 n0 v U'.heap L ∧ FrameEnd U o U' L ({ frames := 1, cells := 0, slots := 0, locals := 12 } : Room).cells ({ frames := 1, cells := 0, slots := 0, locals := 12 } : Room).slots) := by
  refine MetFree.of_bodySF (plainFor_of_name pn_3) hisR ?_
  intro p e s m args below meth c s₁ Bd hml0 hP hK
  obtain ⟨rfl, hZ, hh⟩ := hP
  have hx := Bd.exec
  have hby := Bd.bytes
  have hml : c.maxLocals = 3 := hml0
  have hown : s.vm.findClass "com/example/rowan/rowan/Node" = some m.cls := findClass_of_methodNamed Bd.named
  have hnm := (name_of_methodNamed Bd.named Bd.method).1
  have hlk : meth.locks = false := Bd.notSynchronized
  have X0 : Stand p l e ({ frames := 1, cells := 0, slots := 0, locals := 12 } : Room) s m #[(.ref a0), w1, w2] below meth c s₁ [] 0 0 := Stand.of_body Bd
  have e0 : s₁.heap = h0 := by rw [← hh, Bd.state]; rfl
  have N0 := Fr.nil n0
  show OwnEnds p.tables e below (OwnQ s ({ frames := 1, cells := 0, slots := 0, locals := 12 } : Room).cells ({ frames := 1, cells := 0, slots := 0, locals := 12 } : Room).slots (Q6 Z a0 w1 w2 h0 n0)) (s₁.setTop (entryFrame m #[(.ref a0), w1, w2] 3))
  refine own_via (fun t k => castTop (ef_6 m a0 w1 w2 hr_w1 hr_w2) k) ?_
  show OwnEnds p.tables e below _ (s₁.setTop (mkF m 0 #[.val (.ref a0), .val w1, .val w2] []))
  have K0 : Keep h0 h0 [a0] := Keep.refl _ _
  refine own_via (fun t k => XS.aloadN X0.here hx rfl (hb hby d6_0) rfl rfl k) ?_
  show OwnEnds p.tables e below _ (s₁.setTop (mkF m 1 #[.val (.ref a0), .val w1, .val w2] [(.ref a0)]))
  obtain ⟨T1, X1, e1, st1⟩ := initO X0 hx hZ hown (hw _ (List.mem_of_getElem? (i := 26) rfl)) (hw _ (List.mem_of_getElem? (i := 27) rfl)) (hw _ (List.mem_of_getElem? (i := 28) rfl)) e0 (g := (mkF m 1 #[.val (.ref a0), .val w1, .val w2] [(.ref a0)])) rfl (by rw [hml]; rfl) rfl (hb hby d6_1) (by decide) (W := 0) (by show 2 * 0 + _ ≤ _; exact Nat.le_of_eq rfl) (by decide)
  refine own_via st1 ?_
  show OwnEnds p.tables e below _ (T1.setTop (mkF m 4 #[.val (.ref a0), .val w1, .val w2] []))
  refine own_via (fun t k => XS.aloadN X1.here hx rfl (hb hby d6_4) rfl rfl k) ?_
  show OwnEnds p.tables e below _ (T1.setTop (mkF m 5 #[.val (.ref a0), .val w1, .val w2] [(.ref a0)]))
  refine own_via (fun t k => XS.aloadN X1.here hx rfl (hb hby d6_5) rfl hr_w1 k) ?_
  show OwnEnds p.tables e below _ (T1.setTop (mkF m 6 #[.val (.ref a0), .val w1, .val w2] [w1, (.ref a0)]))
  obtain ⟨T2, h2, X2, e2, W2, st2⟩ := putF X1 hx hZ hown (host := "") (Or.inl (hw _ (List.mem_of_getElem? (i := 29) rfl))) Via.refl e1 F_key_a0 E_a0 (Or.inl (hw _ (List.mem_of_getElem? (i := 30) rfl))) (hw _ (List.mem_of_getElem? (i := 15) rfl)) (ty := (.object "java/lang/Object")) (by decide) (own_narR rfl hr_w1) (own_fitR rfl hr_w1) (g := (mkF m 6 #[.val (.ref a0), .val w1, .val w2] [w1, (.ref a0)])) rfl rfl (hb hby d6_6)
  replace E_a0 := E_a0.wr W2
  replace F_key_a0 := F_key_a0.same W2
  replace F_value_a0 := F_value_a0.other W2 (Or.inr (slot_ne (Or.inl (hw _ (List.mem_of_getElem? (i := 32) rfl))) (Or.inl (hw _ (List.mem_of_getElem? (i := 30) rfl))) (by decide) (t := (.object "java/lang/Object")) (t' := (.object "java/lang/Object")) (by decide) (by decide)))
  replace F_left_a0 := F_left_a0.other W2 (Or.inr (slot_ne (Or.inl (hw _ (List.mem_of_getElem? (i := 37) rfl))) (Or.inl (hw _ (List.mem_of_getElem? (i := 30) rfl))) (by decide) (t := (.object "com/example/rowan/rowan/Node")) (t' := (.object "java/lang/Object")) (by decide) (by decide)))
  replace F_right_a0 := F_right_a0.other W2 (Or.inr (slot_ne (Or.inl (hw _ (List.mem_of_getElem? (i := 39) rfl))) (Or.inl (hw _ (List.mem_of_getElem? (i := 30) rfl))) (by decide) (t := (.object "com/example/rowan/rowan/Node")) (t' := (.object "java/lang/Object")) (by decide) (by decide)))
  replace F_red_a0 := F_red_a0.other W2 (Or.inr (slot_ne (Or.inl (hw _ (List.mem_of_getElem? (i := 34) rfl))) (Or.inl (hw _ (List.mem_of_getElem? (i := 30) rfl))) (by decide) (t := .boolean) (t' := (.object "java/lang/Object")) (by decide) (by decide)))
  replace K0 := K0.wr W2 (Or.inl (List.mem_of_getElem? (i := 0) rfl))
  have Zs_W2 : n0 ≤ _ := Nat.le_trans Z0 (Keep.of_wr W2).1
  have N2 := Fr.snoc X2 N0 g_a0
  refine own_via st2 ?_
  show OwnEnds p.tables e below _ (T2.setTop (mkF m 9 #[.val (.ref a0), .val w1, .val w2] []))
  refine own_via (fun t k => XS.aloadN X2.here hx rfl (hb hby d6_9) rfl rfl k) ?_
  show OwnEnds p.tables e below _ (T2.setTop (mkF m 10 #[.val (.ref a0), .val w1, .val w2] [(.ref a0)]))
  refine own_via (fun t k => XS.aloadN X2.here hx rfl (hb hby d6_10) rfl hr_w2 k) ?_
  show OwnEnds p.tables e below _ (T2.setTop (mkF m 11 #[.val (.ref a0), .val w1, .val w2] [w2, (.ref a0)]))
  obtain ⟨T3, h3, X3, e3, W3, st3⟩ := putF X2 hx hZ hown (host := "") (Or.inl (hw _ (List.mem_of_getElem? (i := 31) rfl))) Via.refl e2 F_value_a0 E_a0 (Or.inl (hw _ (List.mem_of_getElem? (i := 32) rfl))) (hw _ (List.mem_of_getElem? (i := 15) rfl)) (ty := (.object "java/lang/Object")) (by decide) (own_narR rfl hr_w2) (own_fitR rfl hr_w2) (g := (mkF m 11 #[.val (.ref a0), .val w1, .val w2] [w2, (.ref a0)])) rfl rfl (hb hby d6_11)
  replace E_a0 := E_a0.wr W3
  replace F_key_a0 := F_key_a0.other W3 (Or.inr (slot_ne (Or.inl (hw _ (List.mem_of_getElem? (i := 30) rfl))) (Or.inl (hw _ (List.mem_of_getElem? (i := 32) rfl))) (by decide) (t := (.object "java/lang/Object")) (t' := (.object "java/lang/Object")) (by decide) (by decide)))
  replace F_value_a0 := F_value_a0.same W3
  replace F_left_a0 := F_left_a0.other W3 (Or.inr (slot_ne (Or.inl (hw _ (List.mem_of_getElem? (i := 37) rfl))) (Or.inl (hw _ (List.mem_of_getElem? (i := 32) rfl))) (by decide) (t := (.object "com/example/rowan/rowan/Node")) (t' := (.object "java/lang/Object")) (by decide) (by decide)))
  replace F_right_a0 := F_right_a0.other W3 (Or.inr (slot_ne (Or.inl (hw _ (List.mem_of_getElem? (i := 39) rfl))) (Or.inl (hw _ (List.mem_of_getElem? (i := 32) rfl))) (by decide) (t := (.object "com/example/rowan/rowan/Node")) (t' := (.object "java/lang/Object")) (by decide) (by decide)))
  replace F_red_a0 := F_red_a0.other W3 (Or.inr (slot_ne (Or.inl (hw _ (List.mem_of_getElem? (i := 34) rfl))) (Or.inl (hw _ (List.mem_of_getElem? (i := 32) rfl))) (by decide) (t := .boolean) (t' := (.object "java/lang/Object")) (by decide) (by decide)))
  replace K0 := K0.wr W3 (Or.inl (List.mem_of_getElem? (i := 0) rfl))
  have Zs_W3 : n0 ≤ _ := Nat.le_trans Zs_W2 (Keep.of_wr W3).1
  have N3 := Fr.snoc X3 N2 g_a0
  refine own_via st3 ?_
  show OwnEnds p.tables e below _ (T3.setTop (mkF m 14 #[.val (.ref a0), .val w1, .val w2] []))
  refine own_via (fun t k => XS.aloadN X3.here hx rfl (hb hby d6_14) rfl rfl k) ?_
  show OwnEnds p.tables e below _ (T3.setTop (mkF m 15 #[.val (.ref a0), .val w1, .val w2] [(.ref a0)]))
  refine own_via (fun t k => XS.iconst X3.here hx rfl (hb hby d6_15) k) ?_
  show OwnEnds p.tables e below _ (T3.setTop (mkF m 16 #[.val (.ref a0), .val w1, .val w2] [(.int (1 : Int32)), (.ref a0)]))
  obtain ⟨T4, h4, X4, e4, W4, st4⟩ := putFN X3 hx hZ hown (hw _ (List.mem_of_getElem? (i := 33) rfl)) Via.refl e3 F_red_a0 E_a0 (Or.inl (hw _ (List.mem_of_getElem? (i := 34) rfl))) (hw _ (List.mem_of_getElem? (i := 15) rfl)) (ty := .boolean) (v' := (.int (nar .boolean (1 : Int32)))) (by decide) rfl (fits_nar_bool _) (g := (mkF m 16 #[.val (.ref a0), .val w1, .val w2] [(.int (1 : Int32)), (.ref a0)])) rfl rfl (hb hby d6_16)
  replace E_a0 := E_a0.wr W4
  replace F_key_a0 := F_key_a0.other W4 (Or.inr (slot_ne (Or.inl (hw _ (List.mem_of_getElem? (i := 30) rfl))) (Or.inl (hw _ (List.mem_of_getElem? (i := 34) rfl))) (by decide) (t := (.object "java/lang/Object")) (t' := .boolean) (by decide) (by decide)))
  replace F_value_a0 := F_value_a0.other W4 (Or.inr (slot_ne (Or.inl (hw _ (List.mem_of_getElem? (i := 32) rfl))) (Or.inl (hw _ (List.mem_of_getElem? (i := 34) rfl))) (by decide) (t := (.object "java/lang/Object")) (t' := .boolean) (by decide) (by decide)))
  replace F_left_a0 := F_left_a0.other W4 (Or.inr (slot_ne (Or.inl (hw _ (List.mem_of_getElem? (i := 37) rfl))) (Or.inl (hw _ (List.mem_of_getElem? (i := 34) rfl))) (by decide) (t := (.object "com/example/rowan/rowan/Node")) (t' := .boolean) (by decide) (by decide)))
  replace F_right_a0 := F_right_a0.other W4 (Or.inr (slot_ne (Or.inl (hw _ (List.mem_of_getElem? (i := 39) rfl))) (Or.inl (hw _ (List.mem_of_getElem? (i := 34) rfl))) (by decide) (t := (.object "com/example/rowan/rowan/Node")) (t' := .boolean) (by decide) (by decide)))
  replace F_red_a0 := F_red_a0.same W4
  replace K0 := K0.wr W4 (Or.inl (List.mem_of_getElem? (i := 0) rfl))
  have Zs_W4 : n0 ≤ _ := Nat.le_trans Zs_W3 (Keep.of_wr W4).1
  have N4 := Fr.snoc X4 N3 g_a0
  refine own_via st4 ?_
  show OwnEnds p.tables e below _ (T4.setTop (mkF m 19 #[.val (.ref a0), .val w1, .val w2] []))
  refine own_retV X4 hx Bd.returns hlk (hb hby d6_19) ?_ (by decide) (by decide)
  rw [e4]
  exact ⟨rfl, N4, K0, E_a0, F_left_a0, F_right_a0, F_red_a0⟩
theorem d1_0 : decode method_3_code 0 = .ok (.iload_n 0, 1) := by decide +kernel
theorem d1_1 : decode method_3_code 1 = .ok (.iload_n 1, 1) := by decide +kernel
theorem d1_2 : decode method_3_code 2 = .ok (.invokestatic 7, 3) := by decide +kernel
theorem d1_5 : decode method_3_code 5 = .ok (.ifCond .ne 5, 3) := by decide +kernel
theorem d1_8 : decode method_3_code 8 = .ok (.aconst_null, 1) := by decide +kernel
theorem d1_9 : decode method_3_code 9 = .ok (.areturn, 1) := by decide +kernel
theorem d1_10 : decode method_3_code 10 = .ok (.new 13, 3) := by decide +kernel
theorem d1_13 : decode method_3_code 13 = .ok (.dup, 1) := by decide +kernel
theorem d1_14 : decode method_3_code 14 = .ok (.iload_n 2, 1) := by decide +kernel
theorem d1_15 : decode method_3_code 15 = .ok (.iload_n 1, 1) := by decide +kernel
theorem d1_16 : decode method_3_code 16 = .ok (.iadd, 1) := by decide +kernel
theorem d1_17 : decode method_3_code 17 = .ok (.invokestatic 15, 3) := by decide +kernel
theorem d1_20 : decode method_3_code 20 = .ok (.iload_n 2, 1) := by decide +kernel
theorem d1_21 : decode method_3_code 21 = .ok (.invokestatic 15, 3) := by decide +kernel
theorem d1_24 : decode method_3_code 24 = .ok (.invokespecial 21, 3) := by decide +kernel
theorem d1_27 : decode method_3_code 27 = .ok (.astore_n 3, 1) := by decide +kernel
theorem d1_28 : decode method_3_code 28 = .ok (.aload_n 3, 1) := by decide +kernel
theorem d1_29 : decode method_3_code 29 = .ok (.iload_n 0, 1) := by decide +kernel
theorem d1_30 : decode method_3_code 30 = .ok (.iload_n 1, 1) := by decide +kernel
theorem d1_31 : decode method_3_code 31 = .ok (.bipush 7, 2) := by decide +kernel
theorem d1_33 : decode method_3_code 33 = .ok (.iadd, 1) := by decide +kernel
theorem d1_34 : decode method_3_code 34 = .ok (.invokestatic 7, 3) := by decide +kernel
theorem d1_37 : decode method_3_code 37 = .ok (.putfield 24, 3) := by decide +kernel
theorem d1_40 : decode method_3_code 40 = .ok (.aload_n 3, 1) := by decide +kernel
theorem d1_41 : decode method_3_code 41 = .ok (.areturn, 1) := by decide +kernel
theorem ef_1 (m : MethodId) (p0 : Int32) (p1 : Int32) (p2 : Int32) : entryFrame m #[(.int p0), (.int p1), (.int p2)] 4 = mkF m 0 #[.val (.int p0), .val (.int p1), .val (.int p2), .unset] [] := by first | (simp [entryFrame, mkF, argsToLocals, Value.category]; done) | rfl
def Q1 (Z : State) (p0 : Int32) (p1 : Int32) (p2 : Int32) (ca : Addr) (cx : List Value) (h0 : Heap) (n0 : Nat) (v : Option Value) (h : Heap) (L : List Loc) : Prop := ∃ w : Value, v = some w ∧ Fr n0 L ∧ Keep h0 h [] ∧ OwnN Z h h0.size h.size w (own_bit p0 p1) .null .null
theorem pd_2 : parseMethodDescriptor "(II)Z" = some ⟨[.int, .int], some .boolean⟩ := by decide +kernel
theorem pd_3 : parseMethodDescriptor "(I)Ljava/lang/Integer;" = some ⟨[.int], some (.object "java/lang/Integer")⟩ := by decide +kernel
theorem pd_4 : parseMethodDescriptor "(Ljava/lang/Object;Ljava/lang/Object;)V" = some ⟨[(.object "java/lang/Object"), (.object "java/lang/Object")], none⟩ := by decide +kernel
set_option maxRecDepth 65536 in
set_option maxHeartbeats 40000000 in
theorem rm1 (l : Launch) (Z : State) (aw : Array Value) (hw : ∀ d ∈ tables_1, d.before aw Z = true) (ws : List Jvm.Cond) (p0 : Int32) (p1 : Int32) (p2 : Int32) (ca : Addr) (cx : List Value) (h0 : Heap) (n0 : Nat) (Z0 : n0 ≤ h0.size) (S_high : Sta Z Z.heap "java/lang/Integer$IntegerCache" "high" "I" (.int (127 : Int32))) (S_cache : Sta Z Z.heap "java/lang/Integer$IntegerCache" "cache" "[Ljava/lang/Integer;" (.ref ca)) (A_ca : AL Z Z.heap ca (.object "java/lang/Integer") cx) (hcl : cx.length = 256) (hcr : ∀ w ∈ cx, w.isRef = true) (O0 : Old Z n0 h0) :
    MetFree l (⟨"com/example/rowan/rowan/NodeCountPinLaw", "mk", "(III)Lcom/example/rowan/rowan/Node;"⟩ : MethodName) (head1 (Jvm.Cond.code (⟨"com/example/rowan/rowan/NodeCountPinLaw", "mk", "(III)Lcom/example/rowan/rowan/Node;"⟩ : MethodName) method_3_code 4 (some (.object "com/example/rowan/rowan/Node")) :: ws) ({ frames := 4, cells := 3, slots := 9, locals := 53 } : Room)) (fun a U => a = #[(.int p0), (.int p1), (.int p2)] ∧ Z.Warmed39 U.vm ∧ U.heap = h0) (fun _ _ _ _ _ => True) (fun _ U o U' => ∃ v L, o = .returned v ∧ Q1 Z p0 p1 p2 ca cx h0 n0 v U'.heap L ∧ FrameEnd U o U' L ({ frames := 4, cells := 3, slots := 9, locals := 53 } : Room).cells ({ frames := 4, cells := 3, slots := 9, locals := 53 } : Room).slots) := by
  refine MetFree.of_bodySF (plainFor_of_name pn_0) hisR ?_
  intro p e s m args below meth c s₁ Bd hml0 hP hK
  obtain ⟨rfl, hZ, hh⟩ := hP
  have hx := Bd.exec
  have hby := Bd.bytes
  have hml : c.maxLocals = 4 := hml0
  have hown : s.vm.findClass "com/example/rowan/rowan/NodeCountPinLaw" = some m.cls := findClass_of_methodNamed Bd.named
  have hnm := (name_of_methodNamed Bd.named Bd.method).1
  have hlk : meth.locks = false := Bd.notSynchronized
  have X0 : Stand p l e ({ frames := 4, cells := 3, slots := 9, locals := 53 } : Room) s m #[(.int p0), (.int p1), (.int p2)] below meth c s₁ [] 0 0 := Stand.of_body Bd
  have e0 : s₁.heap = h0 := by rw [← hh, Bd.state]; rfl
  have N0 := Fr.nil n0
  show OwnEnds p.tables e below (OwnQ s ({ frames := 4, cells := 3, slots := 9, locals := 53 } : Room).cells ({ frames := 4, cells := 3, slots := 9, locals := 53 } : Room).slots (Q1 Z p0 p1 p2 ca cx h0 n0)) (s₁.setTop (entryFrame m #[(.int p0), (.int p1), (.int p2)] 4))
  refine own_via (fun t k => castTop (ef_1 m p0 p1 p2) k) ?_
  show OwnEnds p.tables e below _ (s₁.setTop (mkF m 0 #[.val (.int p0), .val (.int p1), .val (.int p2), .unset] []))
  have K0 : Keep h0 h0 [] := Keep.refl _ _
  refine own_via (fun t k => XS.iloadN X0.here hx rfl (hb hby d1_0) rfl k) ?_
  show OwnEnds p.tables e below _ (s₁.setTop (mkF m 1 #[.val (.int p0), .val (.int p1), .val (.int p2), .unset] [(.int p0)]))
  refine own_via (fun t k => XS.iloadN X0.here hx rfl (hb hby d1_1) rfl k) ?_
  show OwnEnds p.tables e below _ (s₁.setTop (mkF m 2 #[.val (.int p0), .val (.int p1), .val (.int p2), .unset] [(.int p1), (.int p0)]))
  obtain ⟨_, _, ⟨T1, L1, k1, n1⟩, -, X1, ⟨Lc1, hQ1, l1, y1, z1⟩, st1⟩ := Jvm.LawKit.callS X0 hx (y := (⟨"com/example/rowan/rowan/NodeCountPinLaw", "bit", "(II)Z"⟩ : MethodName)) hown (mvT hZ (hw _ (List.mem_of_getElem? (i := 4) rfl))) (mvT hZ (hw _ (List.mem_of_getElem? (i := 5) rfl))) (mvT hZ (hw _ (List.mem_of_getElem? (i := 2) rfl))) (mvT hZ (hw _ (List.mem_of_getElem? (i := 6) rfl))) (by decide) (backOf (W := 0) (rm2 l Z aw hw [] p0 p1 h0 n0 Z0 ) hZ (hw _ (List.mem_of_getElem? (i := 6) rfl)) (hw _ (List.mem_of_getElem? (i := 2) rfl)) (by decide) (by decide)) (g := (mkF m 2 #[.val (.int p0), .val (.int p1), .val (.int p2), .unset] [(.int p1), (.int p0)])) rfl (by rw [hml]; rfl) (argsL := [(.int p0), (.int p1)]) (rest := []) (lenOf pd_2 rfl) rfl (by show 2 * 0 + _ ≤ _; exact Nat.le_of_eq rfl) (hb hby d1_2) (fun _ _ => ⟨rfl, e0, (by decide : 0 + 0 ≤ _), (by decide : 0 + 0 ≤ _)⟩)
  dsimp only [Pt.U, Pt.locs, Pt.cells, Pt.slots] at X1 l1 y1 z1 st1 hQ1
  subst l1 y1 z1
  obtain ⟨rfl, Nq1, e1⟩ := hQ1
  have N1 := Fr.app N0 Nq1
  replace e1 : T1.heap = h0 := e1
  refine own_via st1 ?_
  show OwnEnds p.tables e below _ (T1.setTop (mkF m 5 #[.val (.int p0), .val (.int p1), .val (.int p2), .unset] [(.int (own_bit p0 p1))]))
  by_cases hc5_2 : (own_bit p0 p1) = (0 : Int32)
  · skip
    refine own_via (fun t k => XS.ifNo X1.here hx rfl (hb hby d1_5) rfl ((if0 _ _).trans (teq hc5_2).2) k) ?_
    show OwnEnds p.tables e below _ (T1.setTop (mkF m 8 #[.val (.int p0), .val (.int p1), .val (.int p2), .unset] []))
    refine own_via (fun t k => XS.aconstNull X1.here hx rfl (hb hby d1_8) k) ?_
    show OwnEnds p.tables e below _ (T1.setTop (mkF m 9 #[.val (.int p0), .val (.int p1), .val (.int p2), .unset] [.null]))
    refine own_retA X1 hx Bd.returns rfl rfl hlk (hb hby d1_9) ?_ (by decide) (by decide)
    rw [e1]
    exact ⟨_, rfl, N1, K0, Or.inl ⟨hc5_2, rfl⟩⟩
  · skip
    refine own_via (fun t k => XS.ifYes X1.here hx rfl (pc0 := 5) (pc' := 10) rfl (hb hby d1_5) rfl ((if0 _ _).trans (feq hc5_2).2) (by decide) (by decide) k) ?_
    show OwnEnds p.tables e below _ (T1.setTop (mkF m 10 #[.val (.int p0), .val (.int p1), .val (.int p2), .unset] []))
    obtain ⟨T3, h3, X3, e3, E3, A3, D3, -, st3⟩ := newO X1 hx hZ hown (hw _ (List.mem_of_getElem? (i := 14) rfl)) (hw _ (List.mem_of_getElem? (i := 15) rfl)) (hw _ (List.mem_of_getElem? (i := 12) rfl)) e1 (g := (mkF m 10 #[.val (.int p0), .val (.int p1), .val (.int p2), .unset] [])) rfl (hb hby d1_10) (by decide) (by decide)
    obtain ⟨b3, g3⟩ : ∃ z, z = h0.size := ⟨_, rfl⟩
    rw [← g3] at A3 D3 st3
    have g_b3 : n0 ≤ b3 := Nat.le_trans Z0 (Nat.le_of_eq g3.symm)
    have sz_b3 : h0.size ≤ b3 := Nat.le_trans K0.1 (Nat.le_of_eq g3.symm)
    have Zs_3 : n0 ≤ _ := Nat.le_trans Z0 E3.1
    replace K0 := K0.ext E3
    replace O0 := O0.ext E3
    have E_b3 := A3
    have F_key_b3 : Fld Z h3 b3 "com/example/rowan/rowan/Node" "key" "Ljava/lang/Object;" .null := D3 (Or.inl (hw _ (List.mem_of_getElem? (i := 30) rfl))) (ty := (.object "java/lang/Object")) (by decide)
    have F_value_b3 : Fld Z h3 b3 "com/example/rowan/rowan/Node" "value" "Ljava/lang/Object;" .null := D3 (Or.inl (hw _ (List.mem_of_getElem? (i := 32) rfl))) (ty := (.object "java/lang/Object")) (by decide)
    have F_red_b3 : Fld Z h3 b3 "com/example/rowan/rowan/Node" "red" "Z" (.int (0 : Int32)) := D3 (Or.inl (hw _ (List.mem_of_getElem? (i := 34) rfl))) (ty := .boolean) (by decide)
    have F_left_b3 : Fld Z h3 b3 "com/example/rowan/rowan/Node" "left" "Lcom/example/rowan/rowan/Node;" .null := D3 (Or.inl (hw _ (List.mem_of_getElem? (i := 37) rfl))) (ty := (.object "com/example/rowan/rowan/Node")) (by decide)
    have F_right_b3 : Fld Z h3 b3 "com/example/rowan/rowan/Node" "right" "Lcom/example/rowan/rowan/Node;" .null := D3 (Or.inl (hw _ (List.mem_of_getElem? (i := 39) rfl))) (ty := (.object "com/example/rowan/rowan/Node")) (by decide)
    refine own_via st3 ?_
    show OwnEnds p.tables e below _ (T3.setTop (mkF m 13 #[.val (.int p0), .val (.int p1), .val (.int p2), .unset] [(.ref b3)]))
    refine own_via (fun t k => XS.dup X3.here hx rfl (hb hby d1_13) rfl rfl k) ?_
    show OwnEnds p.tables e below _ (T3.setTop (mkF m 14 #[.val (.int p0), .val (.int p1), .val (.int p2), .unset] [(.ref b3), (.ref b3)]))
    refine own_via (fun t k => XS.iloadN X3.here hx rfl (hb hby d1_14) rfl k) ?_
    show OwnEnds p.tables e below _ (T3.setTop (mkF m 15 #[.val (.int p0), .val (.int p1), .val (.int p2), .unset] [(.int p2), (.ref b3), (.ref b3)]))
    refine own_via (fun t k => XS.iloadN X3.here hx rfl (hb hby d1_15) rfl k) ?_
    show OwnEnds p.tables e below _ (T3.setTop (mkF m 16 #[.val (.int p0), .val (.int p1), .val (.int p2), .unset] [(.int p1), (.int p2), (.ref b3), (.ref b3)]))
    refine own_via (fun t k => XS.iadd X3.here hx rfl (hb hby d1_16) rfl k) ?_
    show OwnEnds p.tables e below _ (T3.setTop (mkF m 17 #[.val (.int p0), .val (.int p1), .val (.int p2), .unset] [(.int (p2 + p1)), (.ref b3), (.ref b3)]))
    obtain ⟨_, _, ⟨T4, L4, k4, n4⟩, -, X4, ⟨Lc4, hQ4, l4, y4, z4⟩, st4⟩ := Jvm.LawKit.callS X3 hx (y := (⟨"java/lang/Integer", "valueOf", "(I)Ljava/lang/Integer;"⟩ : MethodName)) hown (mvT hZ (hw _ (List.mem_of_getElem? (i := 16) rfl))) (mvT hZ (hw _ (List.mem_of_getElem? (i := 17) rfl))) (mvT hZ (hw _ (List.mem_of_getElem? (i := 18) rfl))) (mvT hZ (hw _ (List.mem_of_getElem? (i := 19) rfl))) (by decide) (backOf (W := 2) (rm5 l Z aw hw [] (p2 + p1) ca cx h3 n0 Zs_3 S_high S_cache A_ca hcl hcr O0) hZ (hw _ (List.mem_of_getElem? (i := 19) rfl)) (hw _ (List.mem_of_getElem? (i := 18) rfl)) (by decide) (by decide)) (g := (mkF m 17 #[.val (.int p0), .val (.int p1), .val (.int p2), .unset] [(.int (p2 + p1)), (.ref b3), (.ref b3)])) rfl (by rw [hml]; rfl) (argsL := [(.int (p2 + p1))]) (rest := [(.ref b3), (.ref b3)]) (lenOf pd_3 rfl) rfl (by show 2 * 0 + _ ≤ _; exact Nat.le_of_eq rfl) (hb hby d1_17) (fun _ _ => ⟨rfl, e3, (by decide : 1 + 1 ≤ _), (by decide : 7 + 1 ≤ _)⟩)
    dsimp only [Pt.U, Pt.locs, Pt.cells, Pt.slots] at X4 l4 y4 z4 st4 hQ4
    subst l4 y4 z4
    obtain ⟨h4, e4⟩ : ∃ z, T4.heap = z := ⟨_, rfl⟩
    rw [e4] at hQ4
    obtain ⟨kw4, rfl, Nq4, K4, hr_kw4⟩ := hQ4
    have N4 := Fr.app N1 Nq4
    replace E_b3 := E_b3.keep K4
    replace F_key_b3 := F_key_b3.keep K4 nin0
    replace F_value_b3 := F_value_b3.keep K4 nin0
    replace F_red_b3 := F_red_b3.keep K4 nin0
    replace F_left_b3 := F_left_b3.keep K4 nin0
    replace F_right_b3 := F_right_b3.keep K4 nin0
    replace K0 := K0.trans K4 all0
    replace O0 := O0.keep K4 all0
    have Zs_4 : n0 ≤ _ := Nat.le_trans Zs_3 K4.1
    refine own_via st4 ?_
    show OwnEnds p.tables e below _ (T4.setTop (mkF m 20 #[.val (.int p0), .val (.int p1), .val (.int p2), .unset] [kw4, (.ref b3), (.ref b3)]))
    refine own_via (fun t k => XS.iloadN X4.here hx rfl (hb hby d1_20) rfl k) ?_
    show OwnEnds p.tables e below _ (T4.setTop (mkF m 21 #[.val (.int p0), .val (.int p1), .val (.int p2), .unset] [(.int p2), kw4, (.ref b3), (.ref b3)]))
    obtain ⟨_, _, ⟨T5, L5, k5, n5⟩, -, X5, ⟨Lc5, hQ5, l5, y5, z5⟩, st5⟩ := Jvm.LawKit.callS X4 hx (y := (⟨"java/lang/Integer", "valueOf", "(I)Ljava/lang/Integer;"⟩ : MethodName)) hown (mvT hZ (hw _ (List.mem_of_getElem? (i := 16) rfl))) (mvT hZ (hw _ (List.mem_of_getElem? (i := 17) rfl))) (mvT hZ (hw _ (List.mem_of_getElem? (i := 18) rfl))) (mvT hZ (hw _ (List.mem_of_getElem? (i := 19) rfl))) (by decide) (backOf (W := 3) (rm5 l Z aw hw [] p2 ca cx h4 n0 Zs_4 S_high S_cache A_ca hcl hcr O0) hZ (hw _ (List.mem_of_getElem? (i := 19) rfl)) (hw _ (List.mem_of_getElem? (i := 18) rfl)) (by decide) (by decide)) (g := (mkF m 21 #[.val (.int p0), .val (.int p1), .val (.int p2), .unset] [(.int p2), kw4, (.ref b3), (.ref b3)])) rfl (by rw [hml]; rfl) (argsL := [(.int p2)]) (rest := [kw4, (.ref b3), (.ref b3)]) (lenOf pd_3 rfl) rfl (by show 2 * 0 + _ ≤ _; simp only [List.map_cons, List.map_nil, own_cat hr_kw4]; exact Nat.le_of_eq rfl) (hb hby d1_21) (fun _ _ => ⟨rfl, e4, (by decide : 2 + 1 ≤ _), (by decide : 8 + 1 ≤ _)⟩)
    dsimp only [Pt.U, Pt.locs, Pt.cells, Pt.slots] at X5 l5 y5 z5 st5 hQ5
    subst l5 y5 z5
    obtain ⟨h5, e5⟩ : ∃ z, T5.heap = z := ⟨_, rfl⟩
    rw [e5] at hQ5
    obtain ⟨kw5, rfl, Nq5, K5, hr_kw5⟩ := hQ5
    have N5 := Fr.app N4 Nq5
    replace E_b3 := E_b3.keep K5
    replace F_key_b3 := F_key_b3.keep K5 nin0
    replace F_value_b3 := F_value_b3.keep K5 nin0
    replace F_red_b3 := F_red_b3.keep K5 nin0
    replace F_left_b3 := F_left_b3.keep K5 nin0
    replace F_right_b3 := F_right_b3.keep K5 nin0
    replace K0 := K0.trans K5 all0
    replace O0 := O0.keep K5 all0
    have Zs_5 : n0 ≤ _ := Nat.le_trans Zs_4 K5.1
    refine own_via st5 ?_
    show OwnEnds p.tables e below _ (T5.setTop (mkF m 24 #[.val (.int p0), .val (.int p1), .val (.int p2), .unset] [kw5, kw4, (.ref b3), (.ref b3)]))
    obtain ⟨_, _, ⟨T6, L6, k6, n6⟩, -, X6, ⟨Lc6, hQ6, l6, y6, z6⟩, st6⟩ := X5.specialBack hx (y := (⟨"com/example/rowan/rowan/Node", "<init>", "(Ljava/lang/Object;Ljava/lang/Object;)V"⟩ : MethodName)) rfl hown (mvT hZ (hw _ (List.mem_of_getElem? (i := 23) rfl))) (mvT hZ (hw _ (List.mem_of_getElem? (i := 24) rfl))) (mvT hZ (hw _ (List.mem_of_getElem? (i := 25) rfl))) (by decide) (backOf (W := 1) (rm6 l Z aw hw [] b3 kw4 kw5 h5 n0 Zs_5 E_b3 F_key_b3 F_value_b3 F_left_b3 F_right_b3 F_red_b3 g_b3 hr_kw4 hr_kw5) hZ (hw _ (List.mem_of_getElem? (i := 25) rfl)) (hw _ (List.mem_of_getElem? (i := 12) rfl)) (by decide) (by decide)) (g := (mkF m 24 #[.val (.int p0), .val (.int p1), .val (.int p2), .unset] [kw5, kw4, (.ref b3), (.ref b3)])) rfl (by rw [hml]; rfl) (Steps.refl _) (a := b3) (argsL := [kw4, kw5]) (rest := [(.ref b3)]) (lenOf pd_4 rfl) rfl (by show 2 * 0 + _ ≤ _; exact Nat.le_of_eq rfl) (hb hby d1_24) (fun _ _ => ⟨rfl, e5, (by decide : 3 + 0 ≤ _), (by decide : 9 + 0 ≤ _)⟩)
    dsimp only [Pt.U, Pt.locs, Pt.cells, Pt.slots] at X6 l6 y6 z6 st6 hQ6
    subst l6 y6 z6
    obtain ⟨h6, e6⟩ : ∃ z, T6.heap = z := ⟨_, rfl⟩
    rw [e6] at hQ6
    obtain ⟨rfl, Nq6, K6, Y6_0, Y6_1, Y6_2, Y6_3⟩ := hQ6
    have N6 := Fr.app N5 Nq6
    replace E_b3 := E_b3.keep K6
    have F_left_b3 : Fld Z h6 b3 "com/example/rowan/rowan/Node" "left" "Lcom/example/rowan/rowan/Node;" .null := Y6_1
    have F_right_b3 : Fld Z h6 b3 "com/example/rowan/rowan/Node" "right" "Lcom/example/rowan/rowan/Node;" .null := Y6_2
    have F_red_b3 : Fld Z h6 b3 "com/example/rowan/rowan/Node" "red" "Z" (.int (1 : Int32)) := Y6_3
    replace K0 := K0.trans K6 (allS (Or.inr sz_b3) all0)
    replace O0 := O0.keep K6 (allS g_b3 all0)
    have Zs_6 : n0 ≤ _ := Nat.le_trans Zs_5 K6.1
    refine own_of st6 ?_
    show OwnEnds p.tables e below _ (T6.setTop (mkF m 27 #[.val (.int p0), .val (.int p1), .val (.int p2), .unset] [(.ref b3)]))
    refine own_via (fun t k => XS.astoreN X6.here hx rfl (hb hby d1_27) rfl rfl (l' := #[.val (.int p0), .val (.int p1), .val (.int p2), .val (.ref b3)]) rfl k) ?_
    show OwnEnds p.tables e below _ (T6.setTop (mkF m 28 #[.val (.int p0), .val (.int p1), .val (.int p2), .val (.ref b3)] []))
    refine own_via (fun t k => XS.aloadN X6.here hx rfl (hb hby d1_28) rfl rfl k) ?_
    show OwnEnds p.tables e below _ (T6.setTop (mkF m 29 #[.val (.int p0), .val (.int p1), .val (.int p2), .val (.ref b3)] [(.ref b3)]))
    refine own_via (fun t k => XS.iloadN X6.here hx rfl (hb hby d1_29) rfl k) ?_
    show OwnEnds p.tables e below _ (T6.setTop (mkF m 30 #[.val (.int p0), .val (.int p1), .val (.int p2), .val (.ref b3)] [(.int p0), (.ref b3)]))
    refine own_via (fun t k => XS.iloadN X6.here hx rfl (hb hby d1_30) rfl k) ?_
    show OwnEnds p.tables e below _ (T6.setTop (mkF m 31 #[.val (.int p0), .val (.int p1), .val (.int p2), .val (.ref b3)] [(.int p1), (.int p0), (.ref b3)]))
    refine own_via (fun t k => XS.bipush X6.here hx rfl (hb hby d1_31) k) ?_
    show OwnEnds p.tables e below _ (T6.setTop (mkF m 33 #[.val (.int p0), .val (.int p1), .val (.int p2), .val (.ref b3)] [(.int (7 : Int32)), (.int p1), (.int p0), (.ref b3)]))
    refine own_via (fun t k => XS.iadd X6.here hx rfl (hb hby d1_33) rfl k) ?_
    show OwnEnds p.tables e below _ (T6.setTop (mkF m 34 #[.val (.int p0), .val (.int p1), .val (.int p2), .val (.ref b3)] [(.int (p1 + (7 : Int32))), (.int p0), (.ref b3)]))
    obtain ⟨_, _, ⟨T7, L7, k7, n7⟩, -, X7, ⟨Lc7, hQ7, l7, y7, z7⟩, st7⟩ := Jvm.LawKit.callS X6 hx (y := (⟨"com/example/rowan/rowan/NodeCountPinLaw", "bit", "(II)Z"⟩ : MethodName)) hown (mvT hZ (hw _ (List.mem_of_getElem? (i := 4) rfl))) (mvT hZ (hw _ (List.mem_of_getElem? (i := 5) rfl))) (mvT hZ (hw _ (List.mem_of_getElem? (i := 2) rfl))) (mvT hZ (hw _ (List.mem_of_getElem? (i := 6) rfl))) (by decide) (backOf (W := 1) (rm2 l Z aw hw [] p0 (p1 + (7 : Int32)) h6 n0 Zs_6 ) hZ (hw _ (List.mem_of_getElem? (i := 6) rfl)) (hw _ (List.mem_of_getElem? (i := 2) rfl)) (by decide) (by decide)) (g := (mkF m 34 #[.val (.int p0), .val (.int p1), .val (.int p2), .val (.ref b3)] [(.int (p1 + (7 : Int32))), (.int p0), (.ref b3)])) rfl (by rw [hml]; rfl) (argsL := [(.int p0), (.int (p1 + (7 : Int32)))]) (rest := [(.ref b3)]) (lenOf pd_2 rfl) rfl (by show 2 * 0 + _ ≤ _; exact Nat.le_of_eq rfl) (hb hby d1_34) (fun _ _ => ⟨rfl, e6, (by decide : 3 + 0 ≤ _), (by decide : 9 + 0 ≤ _)⟩)
    dsimp only [Pt.U, Pt.locs, Pt.cells, Pt.slots] at X7 l7 y7 z7 st7 hQ7
    subst l7 y7 z7
    obtain ⟨rfl, Nq7, e7⟩ := hQ7
    have N7 := Fr.app N6 Nq7
    replace e7 : T7.heap = h6 := e7
    refine own_via st7 ?_
    show OwnEnds p.tables e below _ (T7.setTop (mkF m 37 #[.val (.int p0), .val (.int p1), .val (.int p2), .val (.ref b3)] [(.int (own_bit p0 (p1 + (7 : Int32)))), (.ref b3)]))
    obtain ⟨T8, h8, X8, e8, W8, st8⟩ := putFN X7 hx hZ hown (hw _ (List.mem_of_getElem? (i := 35) rfl)) Via.refl e7 F_red_b3 E_b3 (Or.inl (hw _ (List.mem_of_getElem? (i := 34) rfl))) (hw _ (List.mem_of_getElem? (i := 15) rfl)) (ty := .boolean) (v' := (.int (nar .boolean (own_bit p0 (p1 + (7 : Int32)))))) (by decide) rfl (fits_nar_bool _) (g := (mkF m 37 #[.val (.int p0), .val (.int p1), .val (.int p2), .val (.ref b3)] [(.int (own_bit p0 (p1 + (7 : Int32)))), (.ref b3)])) rfl rfl (hb hby d1_37)
    replace E_b3 := E_b3.wr W8
    replace F_left_b3 := F_left_b3.other W8 (Or.inr (slot_ne (Or.inl (hw _ (List.mem_of_getElem? (i := 37) rfl))) (Or.inl (hw _ (List.mem_of_getElem? (i := 34) rfl))) (by decide) (t := (.object "com/example/rowan/rowan/Node")) (t' := .boolean) (by decide) (by decide)))
    replace F_right_b3 := F_right_b3.other W8 (Or.inr (slot_ne (Or.inl (hw _ (List.mem_of_getElem? (i := 39) rfl))) (Or.inl (hw _ (List.mem_of_getElem? (i := 34) rfl))) (by decide) (t := (.object "com/example/rowan/rowan/Node")) (t' := .boolean) (by decide) (by decide)))
    replace F_red_b3 := F_red_b3.same W8
    replace K0 := K0.wr W8 (Or.inr sz_b3)
    replace O0 := O0.wr W8 g_b3
    have Zs_W8 : n0 ≤ _ := Nat.le_trans Zs_6 (Keep.of_wr W8).1
    have N8 := Fr.snoc X8 N7 g_b3
    refine own_via st8 ?_
    show OwnEnds p.tables e below _ (T8.setTop (mkF m 40 #[.val (.int p0), .val (.int p1), .val (.int p2), .val (.ref b3)] []))
    refine own_via (fun t k => XS.aloadN X8.here hx rfl (hb hby d1_40) rfl rfl k) ?_
    show OwnEnds p.tables e below _ (T8.setTop (mkF m 41 #[.val (.int p0), .val (.int p1), .val (.int p2), .val (.ref b3)] [(.ref b3)]))
    refine own_retA X8 hx Bd.returns rfl rfl hlk (hb hby d1_41) ?_ (by decide) (by decide)
    rw [e8]
    exact ⟨_, rfl, N8, K0, Or.inr ⟨hc5_2, b3, rfl, sz_b3, E_b3.lt, E_b3, F_left_b3, F_right_b3⟩⟩
theorem d3_0 : decode method_4_code 0 = .ok (.aload_n 0, 1) := by decide +kernel
theorem d3_1 : decode method_4_code 1 = .ok (.ifnull 13, 3) := by decide +kernel
theorem d3_4 : decode method_4_code 4 = .ok (.aload_n 0, 1) := by decide +kernel
theorem d3_5 : decode method_4_code 5 = .ok (.aload_n 1, 1) := by decide +kernel
theorem d3_6 : decode method_4_code 6 = .ok (.putfield 28, 3) := by decide +kernel
theorem d3_9 : decode method_4_code 9 = .ok (.aload_n 0, 1) := by decide +kernel
theorem d3_10 : decode method_4_code 10 = .ok (.aload_n 2, 1) := by decide +kernel
theorem d3_11 : decode method_4_code 11 = .ok (.putfield 32, 3) := by decide +kernel
theorem d3_14 : decode method_4_code 14 = .ok (.return_, 1) := by decide +kernel
theorem ef_3 (m : MethodId) (w0 : Value) (w1 : Value) (w2 : Value) (hr_w0 : w0.isRef = true) (hr_w1 : w1.isRef = true) (hr_w2 : w2.isRef = true) : entryFrame m #[w0, w1, w2] 3 = mkF m 0 #[.val w0, .val w1, .val w2] [] := by
  rcases ref_cases hr_w0 with rfl | ⟨w0', rfl⟩ <;> rcases ref_cases hr_w1 with rfl | ⟨w1', rfl⟩ <;> rcases ref_cases hr_w2 with rfl | ⟨w2', rfl⟩ <;> first | (simp [entryFrame, mkF, argsToLocals, Value.category]; done) | rfl
def Q3 (Z : State) (w0 : Value) (w1 : Value) (w2 : Value) (lo : Nat) (hi : Nat) (b : Int32) (h0 : Heap) (n0 : Nat) (v : Option Value) (h : Heap) (L : List Loc) : Prop := v = none ∧ Fr n0 L ∧ Keep h0 h (own_ws w0) ∧ OwnN Z h lo hi w0 b w1 w2
set_option maxRecDepth 65536 in
set_option maxHeartbeats 40000000 in
theorem rm3 (l : Launch) (Z : State) (aw : Array Value) (hw : ∀ d ∈ tables_1, d.before aw Z = true) (ws : List Jvm.Cond) (w0 : Value) (w1 : Value) (w2 : Value) (lo : Nat) (hi : Nat) (b : Int32) (h0 : Heap) (n0 : Nat) (Z0 : n0 ≤ h0.size) (hN : OwnN Z h0 lo hi w0 b .null .null) (hr_w1 : w1.isRef = true) (hr_w2 : w2.isRef = true) (hlo : n0 ≤ lo) :
    MetFree l (⟨"com/example/rowan/rowan/NodeCountPinLaw", "link", "(Lcom/example/rowan/rowan/Node;Lcom/example/rowan/rowan/Node;Lcom/example/rowan/rowan/Node;)V"⟩ : MethodName) (head1 (Jvm.Cond.code (⟨"com/example/rowan/rowan/NodeCountPinLaw", "link", "(Lcom/example/rowan/rowan/Node;Lcom/example/rowan/rowan/Node;Lcom/example/rowan/rowan/Node;)V"⟩ : MethodName) method_4_code 3 none :: ws) ({ frames := 0, cells := 0, slots := 0, locals := 0 } : Room)) (fun a U => a = #[w0, w1, w2] ∧ Z.Warmed39 U.vm ∧ U.heap = h0) (fun _ _ _ _ _ => True) (fun _ U o U' => ∃ v L, o = .returned v ∧ Q3 Z w0 w1 w2 lo hi b h0 n0 v U'.heap L ∧ FrameEnd U o U' L ({ frames := 0, cells := 0, slots := 0, locals := 0 } : Room).cells ({ frames := 0, cells := 0, slots := 0, locals := 0 } : Room).slots) := by
  refine MetFree.of_bodySF (plainFor_of_name pn_0) hisR ?_
  intro p e s m args below meth c s₁ Bd hml0 hP hK
  obtain ⟨rfl, hZ, hh⟩ := hP
  have hx := Bd.exec
  have hby := Bd.bytes
  have hml : c.maxLocals = 3 := hml0
  have hown : s.vm.findClass "com/example/rowan/rowan/NodeCountPinLaw" = some m.cls := findClass_of_methodNamed Bd.named
  have hnm := (name_of_methodNamed Bd.named Bd.method).1
  have hlk : meth.locks = false := Bd.notSynchronized
  have X0 : Stand p l e ({ frames := 0, cells := 0, slots := 0, locals := 0 } : Room) s m #[w0, w1, w2] below meth c s₁ [] 0 0 := Stand.of_body Bd
  have e0 : s₁.heap = h0 := by rw [← hh, Bd.state]; rfl
  have N0 := Fr.nil n0
  show OwnEnds p.tables e below (OwnQ s ({ frames := 0, cells := 0, slots := 0, locals := 0 } : Room).cells ({ frames := 0, cells := 0, slots := 0, locals := 0 } : Room).slots (Q3 Z w0 w1 w2 lo hi b h0 n0)) (s₁.setTop (entryFrame m #[w0, w1, w2] 3))
  have hr_w0 := hN.isRef
  refine own_via (fun t k => castTop (ef_3 m w0 w1 w2 hr_w0 hr_w1 hr_w2) k) ?_
  show OwnEnds p.tables e below _ (s₁.setTop (mkF m 0 #[.val w0, .val w1, .val w2] []))
  rcases hN with ⟨hb0, rfl⟩ | ⟨hb0, ad, rfl, hlo2, hhi2, E_ad, F_left_ad, F_right_ad⟩
  · skip
    have K0 : Keep h0 h0 (own_ws .null) := Keep.refl _ _
    show OwnEnds p.tables e below _ (s₁.setTop (mkF m 0 #[.val .null, .val w1, .val w2] []))
    refine own_via (fun t k => XS.aloadN X0.here hx rfl (hb hby d3_0) rfl rfl k) ?_
    show OwnEnds p.tables e below _ (s₁.setTop (mkF m 1 #[.val .null, .val w1, .val w2] [.null]))
    refine own_via (fun t k => XS.ifnullYes X0.here hx rfl (pc0 := 1) (pc' := 14) rfl (hb hby d3_1) rfl (by decide) (by decide) k) ?_
    show OwnEnds p.tables e below _ (s₁.setTop (mkF m 14 #[.val .null, .val w1, .val w2] []))
    refine own_retV X0 hx Bd.returns hlk (hb hby d3_14) ?_ (by decide) (by decide)
    rw [e0]
    exact ⟨rfl, N0, K0, Or.inl ⟨hb0, rfl⟩⟩
  · skip
    have K0 : Keep h0 h0 [ad] := Keep.refl _ _
    have g_ad : n0 ≤ ad := Nat.le_trans hlo hlo2
    show OwnEnds p.tables e below _ (s₁.setTop (mkF m 0 #[.val (.ref ad), .val w1, .val w2] []))
    refine own_via (fun t k => XS.aloadN X0.here hx rfl (hb hby d3_0) rfl rfl k) ?_
    show OwnEnds p.tables e below _ (s₁.setTop (mkF m 1 #[.val (.ref ad), .val w1, .val w2] [(.ref ad)]))
    refine own_via (fun t k => XS.ifnullNo X0.here hx rfl (hb hby d3_1) rfl k) ?_
    show OwnEnds p.tables e below _ (s₁.setTop (mkF m 4 #[.val (.ref ad), .val w1, .val w2] []))
    refine own_via (fun t k => XS.aloadN X0.here hx rfl (hb hby d3_4) rfl rfl k) ?_
    show OwnEnds p.tables e below _ (s₁.setTop (mkF m 5 #[.val (.ref ad), .val w1, .val w2] [(.ref ad)]))
    refine own_via (fun t k => XS.aloadN X0.here hx rfl (hb hby d3_5) rfl hr_w1 k) ?_
    show OwnEnds p.tables e below _ (s₁.setTop (mkF m 6 #[.val (.ref ad), .val w1, .val w2] [w1, (.ref ad)]))
    obtain ⟨T1, h1, X1, e1, W1, st1⟩ := putF X0 hx hZ hown (host := "") (Or.inl (hw _ (List.mem_of_getElem? (i := 36) rfl))) Via.refl e0 F_left_ad E_ad (Or.inl (hw _ (List.mem_of_getElem? (i := 37) rfl))) (hw _ (List.mem_of_getElem? (i := 15) rfl)) (ty := (.object "com/example/rowan/rowan/Node")) (by decide) (own_narR rfl hr_w1) (own_fitR rfl hr_w1) (g := (mkF m 6 #[.val (.ref ad), .val w1, .val w2] [w1, (.ref ad)])) rfl rfl (hb hby d3_6)
    replace E_ad := E_ad.wr W1
    replace F_left_ad := F_left_ad.same W1
    replace F_right_ad := F_right_ad.other W1 (Or.inr (slot_ne (Or.inl (hw _ (List.mem_of_getElem? (i := 39) rfl))) (Or.inl (hw _ (List.mem_of_getElem? (i := 37) rfl))) (by decide) (t := (.object "com/example/rowan/rowan/Node")) (t' := (.object "com/example/rowan/rowan/Node")) (by decide) (by decide)))
    replace K0 := K0.wr W1 (Or.inl (List.mem_of_getElem? (i := 0) rfl))
    have Zs_W1 : n0 ≤ _ := Nat.le_trans Z0 (Keep.of_wr W1).1
    have N1 := Fr.snoc X1 N0 g_ad
    refine own_via st1 ?_
    show OwnEnds p.tables e below _ (T1.setTop (mkF m 9 #[.val (.ref ad), .val w1, .val w2] []))
    refine own_via (fun t k => XS.aloadN X1.here hx rfl (hb hby d3_9) rfl rfl k) ?_
    show OwnEnds p.tables e below _ (T1.setTop (mkF m 10 #[.val (.ref ad), .val w1, .val w2] [(.ref ad)]))
    refine own_via (fun t k => XS.aloadN X1.here hx rfl (hb hby d3_10) rfl hr_w2 k) ?_
    show OwnEnds p.tables e below _ (T1.setTop (mkF m 11 #[.val (.ref ad), .val w1, .val w2] [w2, (.ref ad)]))
    obtain ⟨T2, h2, X2, e2, W2, st2⟩ := putF X1 hx hZ hown (host := "") (Or.inl (hw _ (List.mem_of_getElem? (i := 38) rfl))) Via.refl e1 F_right_ad E_ad (Or.inl (hw _ (List.mem_of_getElem? (i := 39) rfl))) (hw _ (List.mem_of_getElem? (i := 15) rfl)) (ty := (.object "com/example/rowan/rowan/Node")) (by decide) (own_narR rfl hr_w2) (own_fitR rfl hr_w2) (g := (mkF m 11 #[.val (.ref ad), .val w1, .val w2] [w2, (.ref ad)])) rfl rfl (hb hby d3_11)
    replace E_ad := E_ad.wr W2
    replace F_left_ad := F_left_ad.other W2 (Or.inr (slot_ne (Or.inl (hw _ (List.mem_of_getElem? (i := 37) rfl))) (Or.inl (hw _ (List.mem_of_getElem? (i := 39) rfl))) (by decide) (t := (.object "com/example/rowan/rowan/Node")) (t' := (.object "com/example/rowan/rowan/Node")) (by decide) (by decide)))
    replace F_right_ad := F_right_ad.same W2
    replace K0 := K0.wr W2 (Or.inl (List.mem_of_getElem? (i := 0) rfl))
    have Zs_W2 : n0 ≤ _ := Nat.le_trans Zs_W1 (Keep.of_wr W2).1
    have N2 := Fr.snoc X2 N1 g_ad
    refine own_via st2 ?_
    show OwnEnds p.tables e below _ (T2.setTop (mkF m 14 #[.val (.ref ad), .val w1, .val w2] []))
    refine own_retV X2 hx Bd.returns hlk (hb hby d3_14) ?_ (by decide) (by decide)
    rw [e2]
    exact ⟨rfl, N2, K0, Or.inr ⟨hb0, ad, rfl, hlo2, hhi2, E_ad, F_left_ad, F_right_ad⟩⟩
theorem d4_0 : decode prog_16_method_15_code 0 = .ok (.iconst 0, 1) := by decide +kernel
theorem d4_1 : decode prog_16_method_15_code 1 = .ok (.istore_n 1, 1) := by decide +kernel
theorem d4_2 : decode prog_16_method_15_code 2 = .ok (.aload_n 0, 1) := by decide +kernel
theorem d4_3 : decode prog_16_method_15_code 3 = .ok (.ifnull 21, 3) := by decide +kernel
theorem d4_6 : decode prog_16_method_15_code 6 = .ok (.iconst 1, 1) := by decide +kernel
theorem d4_7 : decode prog_16_method_15_code 7 = .ok (.aload_n 0, 1) := by decide +kernel
theorem d4_8 : decode prog_16_method_15_code 8 = .ok (.getfield 20, 3) := by decide +kernel
theorem d4_11 : decode prog_16_method_15_code 11 = .ok (.invokestatic 52, 3) := by decide +kernel
theorem d4_14 : decode prog_16_method_15_code 14 = .ok (.iadd, 1) := by decide +kernel
theorem d4_15 : decode prog_16_method_15_code 15 = .ok (.aload_n 0, 1) := by decide +kernel
theorem d4_16 : decode prog_16_method_15_code 16 = .ok (.getfield 24, 3) := by decide +kernel
theorem d4_19 : decode prog_16_method_15_code 19 = .ok (.invokestatic 52, 3) := by decide +kernel
theorem d4_22 : decode prog_16_method_15_code 22 = .ok (.iadd, 1) := by decide +kernel
theorem d4_23 : decode prog_16_method_15_code 23 = .ok (.istore_n 1, 1) := by decide +kernel
theorem d4_24 : decode prog_16_method_15_code 24 = .ok (.iload_n 1, 1) := by decide +kernel
theorem d4_25 : decode prog_16_method_15_code 25 = .ok (.ireturn, 1) := by decide +kernel
theorem ef_40 (m : MethodId) (w0 : Value) (hr_w0 : w0.isRef = true) : entryFrame m #[w0] 2 = mkF m 0 #[.val w0, .unset] [] := by
  rcases ref_cases hr_w0 with rfl | ⟨w0', rfl⟩ <;> first | (simp [entryFrame, mkF, argsToLocals, Value.category]; done) | rfl
def Q40 (Z : State) (w0 : Value) (c0 : Int32) (h0 : Heap) (n0 : Nat) (v : Option Value) (h : Heap) (L : List Loc) : Prop := v = some (.int c0) ∧ Fr n0 L ∧ h = h0
set_option maxRecDepth 65536 in
set_option maxHeartbeats 40000000 in
theorem rm40 (l : Launch) (Z : State) (aw : Array Value) (hw : ∀ d ∈ tables_1, d.before aw Z = true) (ws : List Jvm.Cond) (w0 : Value) (c0 : Int32) (h0 : Heap) (n0 : Nat) (Z0 : n0 ≤ h0.size) (hT : OwnT Z h0 0 w0 c0) :
    MetFree l (⟨"com/example/rowan/rowan/Node", "count", "(Lcom/example/rowan/rowan/Node;)I"⟩ : MethodName) (head1 (Jvm.Cond.code (⟨"com/example/rowan/rowan/Node", "count", "(Lcom/example/rowan/rowan/Node;)I"⟩ : MethodName) prog_16_method_15_code 2 (some .int) :: ws) ({ frames := 0, cells := 0, slots := 0, locals := 0 } : Room)) (fun a U => a = #[w0] ∧ Z.Warmed39 U.vm ∧ U.heap = h0) (fun _ _ _ _ _ => True) (fun _ U o U' => ∃ v L, o = .returned v ∧ Q40 Z w0 c0 h0 n0 v U'.heap L ∧ FrameEnd U o U' L ({ frames := 0, cells := 0, slots := 0, locals := 0 } : Room).cells ({ frames := 0, cells := 0, slots := 0, locals := 0 } : Room).slots) := by
  refine MetFree.of_bodySF (plainFor_of_name pn_3) hisR ?_
  intro p e s m args below meth c s₁ Bd hml0 hP hK
  obtain ⟨rfl, hZ, hh⟩ := hP
  have hx := Bd.exec
  have hby := Bd.bytes
  have hml : c.maxLocals = 2 := hml0
  have hown : s.vm.findClass "com/example/rowan/rowan/Node" = some m.cls := findClass_of_methodNamed Bd.named
  have hnm := (name_of_methodNamed Bd.named Bd.method).1
  have hlk : meth.locks = false := Bd.notSynchronized
  have X0 : Stand p l e ({ frames := 0, cells := 0, slots := 0, locals := 0 } : Room) s m #[w0] below meth c s₁ [] 0 0 := Stand.of_body Bd
  have e0 : s₁.heap = h0 := by rw [← hh, Bd.state]; rfl
  have N0 := Fr.nil n0
  show OwnEnds p.tables e below (OwnQ s ({ frames := 0, cells := 0, slots := 0, locals := 0 } : Room).cells ({ frames := 0, cells := 0, slots := 0, locals := 0 } : Room).slots (Q40 Z w0 c0 h0 n0)) (s₁.setTop (entryFrame m #[w0] 2))
  have hr_w0 := hT.isRef
  refine own_via (fun t k => castTop (ef_40 m w0 hr_w0) k) ?_
  show OwnEnds p.tables e below _ (s₁.setTop (mkF m 0 #[.val w0, .unset] []))
  obtain ⟨rfl, rfl⟩ := hT
  show OwnEnds p.tables e below _ (s₁.setTop (mkF m 0 #[.val .null, .unset] []))
  refine own_via (fun t k => XS.iconst X0.here hx rfl (hb hby d4_0) k) ?_
  show OwnEnds p.tables e below _ (s₁.setTop (mkF m 1 #[.val .null, .unset] [(.int (0 : Int32))]))
  refine own_via (fun t k => XS.istoreN X0.here hx rfl (hb hby d4_1) rfl (l' := #[.val .null, .val (.int (0 : Int32))]) rfl k) ?_
  show OwnEnds p.tables e below _ (s₁.setTop (mkF m 2 #[.val .null, .val (.int (0 : Int32))] []))
  refine own_via (fun t k => XS.aloadN X0.here hx rfl (hb hby d4_2) rfl rfl k) ?_
  show OwnEnds p.tables e below _ (s₁.setTop (mkF m 3 #[.val .null, .val (.int (0 : Int32))] [.null]))
  refine own_via (fun t k => XS.ifnullYes X0.here hx rfl (pc0 := 3) (pc' := 24) rfl (hb hby d4_3) rfl (by decide) (by decide) k) ?_
  show OwnEnds p.tables e below _ (s₁.setTop (mkF m 24 #[.val .null, .val (.int (0 : Int32))] []))
  refine own_via (fun t k => XS.iloadN X0.here hx rfl (hb hby d4_24) rfl k) ?_
  show OwnEnds p.tables e below _ (s₁.setTop (mkF m 25 #[.val .null, .val (.int (0 : Int32))] [(.int (0 : Int32))]))
  refine own_retI X0 hx Bd.returns hlk (hb hby d4_25) ?_ (by decide) (by decide)
  rw [e0]
  exact ⟨rfl, N0, rfl⟩
theorem ef_41 (m : MethodId) (w0 : Value) (hr_w0 : w0.isRef = true) : entryFrame m #[w0] 2 = mkF m 0 #[.val w0, .unset] [] := by
  rcases ref_cases hr_w0 with rfl | ⟨w0', rfl⟩ <;> first | (simp [entryFrame, mkF, argsToLocals, Value.category]; done) | rfl
def Q41 (Z : State) (w0 : Value) (c0 : Int32) (h0 : Heap) (n0 : Nat) (v : Option Value) (h : Heap) (L : List Loc) : Prop := v = some (.int c0) ∧ Fr n0 L ∧ h = h0
theorem pd_5 : parseMethodDescriptor "(Lcom/example/rowan/rowan/Node;)I" = some ⟨[(.object "com/example/rowan/rowan/Node")], some .int⟩ := by decide +kernel
set_option maxRecDepth 65536 in
set_option maxHeartbeats 40000000 in
theorem rm41 (l : Launch) (Z : State) (aw : Array Value) (hw : ∀ d ∈ tables_1, d.before aw Z = true) (ws : List Jvm.Cond) (w0 : Value) (c0 : Int32) (h0 : Heap) (n0 : Nat) (Z0 : n0 ≤ h0.size) (hT : OwnT Z h0 1 w0 c0) :
    MetFree l (⟨"com/example/rowan/rowan/Node", "count", "(Lcom/example/rowan/rowan/Node;)I"⟩ : MethodName) (head1 (Jvm.Cond.code (⟨"com/example/rowan/rowan/Node", "count", "(Lcom/example/rowan/rowan/Node;)I"⟩ : MethodName) prog_16_method_15_code 2 (some .int) :: ws) ({ frames := 1, cells := 0, slots := 0, locals := 14 } : Room)) (fun a U => a = #[w0] ∧ Z.Warmed39 U.vm ∧ U.heap = h0) (fun _ _ _ _ _ => True) (fun _ U o U' => ∃ v L, o = .returned v ∧ Q41 Z w0 c0 h0 n0 v U'.heap L ∧ FrameEnd U o U' L ({ frames := 1, cells := 0, slots := 0, locals := 14 } : Room).cells ({ frames := 1, cells := 0, slots := 0, locals := 14 } : Room).slots) := by
  refine MetFree.of_bodySF (plainFor_of_name pn_3) hisR ?_
  intro p e s m args below meth c s₁ Bd hml0 hP hK
  obtain ⟨rfl, hZ, hh⟩ := hP
  have hx := Bd.exec
  have hby := Bd.bytes
  have hml : c.maxLocals = 2 := hml0
  have hown : s.vm.findClass "com/example/rowan/rowan/Node" = some m.cls := findClass_of_methodNamed Bd.named
  have hnm := (name_of_methodNamed Bd.named Bd.method).1
  have hlk : meth.locks = false := Bd.notSynchronized
  have X0 : Stand p l e ({ frames := 1, cells := 0, slots := 0, locals := 14 } : Room) s m #[w0] below meth c s₁ [] 0 0 := Stand.of_body Bd
  have e0 : s₁.heap = h0 := by rw [← hh, Bd.state]; rfl
  have N0 := Fr.nil n0
  show OwnEnds p.tables e below (OwnQ s ({ frames := 1, cells := 0, slots := 0, locals := 14 } : Room).cells ({ frames := 1, cells := 0, slots := 0, locals := 14 } : Room).slots (Q41 Z w0 c0 h0 n0)) (s₁.setTop (entryFrame m #[w0] 2))
  have hr_w0 := hT.isRef
  refine own_via (fun t k => castTop (ef_41 m w0 hr_w0) k) ?_
  show OwnEnds p.tables e below _ (s₁.setTop (mkF m 0 #[.val w0, .unset] []))
  rcases hT with ⟨rfl, rfl⟩ | ⟨ad, lf, rt, c1, c2, rfl, F_l, F_r, TR1, TR2, rfl⟩
  · skip
    show OwnEnds p.tables e below _ (s₁.setTop (mkF m 0 #[.val .null, .unset] []))
    refine own_via (fun t k => XS.iconst X0.here hx rfl (hb hby d4_0) k) ?_
    show OwnEnds p.tables e below _ (s₁.setTop (mkF m 1 #[.val .null, .unset] [(.int (0 : Int32))]))
    refine own_via (fun t k => XS.istoreN X0.here hx rfl (hb hby d4_1) rfl (l' := #[.val .null, .val (.int (0 : Int32))]) rfl k) ?_
    show OwnEnds p.tables e below _ (s₁.setTop (mkF m 2 #[.val .null, .val (.int (0 : Int32))] []))
    refine own_via (fun t k => XS.aloadN X0.here hx rfl (hb hby d4_2) rfl rfl k) ?_
    show OwnEnds p.tables e below _ (s₁.setTop (mkF m 3 #[.val .null, .val (.int (0 : Int32))] [.null]))
    refine own_via (fun t k => XS.ifnullYes X0.here hx rfl (pc0 := 3) (pc' := 24) rfl (hb hby d4_3) rfl (by decide) (by decide) k) ?_
    show OwnEnds p.tables e below _ (s₁.setTop (mkF m 24 #[.val .null, .val (.int (0 : Int32))] []))
    refine own_via (fun t k => XS.iloadN X0.here hx rfl (hb hby d4_24) rfl k) ?_
    show OwnEnds p.tables e below _ (s₁.setTop (mkF m 25 #[.val .null, .val (.int (0 : Int32))] [(.int (0 : Int32))]))
    refine own_retI X0 hx Bd.returns hlk (hb hby d4_25) ?_ (by decide) (by decide)
    rw [e0]
    exact ⟨rfl, N0, rfl⟩
  · skip
    have hr_lf := TR1.isRef
    have hr_rt := TR2.isRef
    show OwnEnds p.tables e below _ (s₁.setTop (mkF m 0 #[.val (.ref ad), .unset] []))
    refine own_via (fun t k => XS.iconst X0.here hx rfl (hb hby d4_0) k) ?_
    show OwnEnds p.tables e below _ (s₁.setTop (mkF m 1 #[.val (.ref ad), .unset] [(.int (0 : Int32))]))
    refine own_via (fun t k => XS.istoreN X0.here hx rfl (hb hby d4_1) rfl (l' := #[.val (.ref ad), .val (.int (0 : Int32))]) rfl k) ?_
    show OwnEnds p.tables e below _ (s₁.setTop (mkF m 2 #[.val (.ref ad), .val (.int (0 : Int32))] []))
    refine own_via (fun t k => XS.aloadN X0.here hx rfl (hb hby d4_2) rfl rfl k) ?_
    show OwnEnds p.tables e below _ (s₁.setTop (mkF m 3 #[.val (.ref ad), .val (.int (0 : Int32))] [(.ref ad)]))
    refine own_via (fun t k => XS.ifnullNo X0.here hx rfl (hb hby d4_3) rfl k) ?_
    show OwnEnds p.tables e below _ (s₁.setTop (mkF m 6 #[.val (.ref ad), .val (.int (0 : Int32))] []))
    refine own_via (fun t k => XS.iconst X0.here hx rfl (hb hby d4_6) k) ?_
    show OwnEnds p.tables e below _ (s₁.setTop (mkF m 7 #[.val (.ref ad), .val (.int (0 : Int32))] [(.int (1 : Int32))]))
    refine own_via (fun t k => XS.aloadN X0.here hx rfl (hb hby d4_7) rfl rfl k) ?_
    show OwnEnds p.tables e below _ (s₁.setTop (mkF m 8 #[.val (.ref ad), .val (.int (0 : Int32))] [(.ref ad), (.int (1 : Int32))]))
    obtain ⟨T1, X1, e1, st1⟩ := getF X0 hx hZ hown (host := "") (Or.inl (hw _ (List.mem_of_getElem? (i := 55) rfl))) Via.refl e0 F_l (g := (mkF m 8 #[.val (.ref ad), .val (.int (0 : Int32))] [(.ref ad), (.int (1 : Int32))])) rfl rfl (hb hby d4_8)
    refine own_via st1 ?_
    show OwnEnds p.tables e below _ (T1.setTop (mkF m 11 #[.val (.ref ad), .val (.int (0 : Int32))] [lf, (.int (1 : Int32))]))
    obtain ⟨_, _, ⟨T2, L2, k2, n2⟩, -, X2, ⟨Lc2, hQ2, l2, y2, z2⟩, st2⟩ := Jvm.LawKit.callS X1 hx (y := (⟨"com/example/rowan/rowan/Node", "count", "(Lcom/example/rowan/rowan/Node;)I"⟩ : MethodName)) hown (mvT hZ (hw _ (List.mem_of_getElem? (i := 56) rfl))) (mvT hZ (hw _ (List.mem_of_getElem? (i := 11) rfl))) (mvT hZ (hw _ (List.mem_of_getElem? (i := 12) rfl))) (mvT hZ (hw _ (List.mem_of_getElem? (i := 13) rfl))) (by decide) (backOf (W := 1) (rm40 l Z aw hw [] lf c1 h0 n0 Z0 TR1) hZ (hw _ (List.mem_of_getElem? (i := 13) rfl)) (hw _ (List.mem_of_getElem? (i := 12) rfl)) (by decide) (by decide)) (g := (mkF m 11 #[.val (.ref ad), .val (.int (0 : Int32))] [lf, (.int (1 : Int32))])) rfl (by rw [hml]; rfl) (argsL := [lf]) (rest := [(.int (1 : Int32))]) (lenOf pd_5 rfl) rfl (by show 2 * 0 + _ ≤ _; exact Nat.le_of_eq rfl) (hb hby d4_11) (fun _ _ => ⟨rfl, e1, (by decide : 0 + 0 ≤ _), (by decide : 0 + 0 ≤ _)⟩)
    dsimp only [Pt.U, Pt.locs, Pt.cells, Pt.slots] at X2 l2 y2 z2 st2 hQ2
    subst l2 y2 z2
    obtain ⟨rfl, Nq2, e2⟩ := hQ2
    have N2 := Fr.app N0 Nq2
    replace e2 : T2.heap = h0 := e2
    refine own_via st2 ?_
    show OwnEnds p.tables e below _ (T2.setTop (mkF m 14 #[.val (.ref ad), .val (.int (0 : Int32))] [(.int c1), (.int (1 : Int32))]))
    refine own_via (fun t k => XS.iadd X2.here hx rfl (hb hby d4_14) rfl k) ?_
    show OwnEnds p.tables e below _ (T2.setTop (mkF m 15 #[.val (.ref ad), .val (.int (0 : Int32))] [(.int ((1 : Int32) + c1))]))
    refine own_via (fun t k => XS.aloadN X2.here hx rfl (hb hby d4_15) rfl rfl k) ?_
    show OwnEnds p.tables e below _ (T2.setTop (mkF m 16 #[.val (.ref ad), .val (.int (0 : Int32))] [(.ref ad), (.int ((1 : Int32) + c1))]))
    obtain ⟨T3, X3, e3, st3⟩ := getF X2 hx hZ hown (host := "") (Or.inl (hw _ (List.mem_of_getElem? (i := 57) rfl))) Via.refl e2 F_r (g := (mkF m 16 #[.val (.ref ad), .val (.int (0 : Int32))] [(.ref ad), (.int ((1 : Int32) + c1))])) rfl rfl (hb hby d4_16)
    refine own_via st3 ?_
    show OwnEnds p.tables e below _ (T3.setTop (mkF m 19 #[.val (.ref ad), .val (.int (0 : Int32))] [rt, (.int ((1 : Int32) + c1))]))
    obtain ⟨_, _, ⟨T4, L4, k4, n4⟩, -, X4, ⟨Lc4, hQ4, l4, y4, z4⟩, st4⟩ := Jvm.LawKit.callS X3 hx (y := (⟨"com/example/rowan/rowan/Node", "count", "(Lcom/example/rowan/rowan/Node;)I"⟩ : MethodName)) hown (mvT hZ (hw _ (List.mem_of_getElem? (i := 56) rfl))) (mvT hZ (hw _ (List.mem_of_getElem? (i := 11) rfl))) (mvT hZ (hw _ (List.mem_of_getElem? (i := 12) rfl))) (mvT hZ (hw _ (List.mem_of_getElem? (i := 13) rfl))) (by decide) (backOf (W := 1) (rm40 l Z aw hw [] rt c2 h0 n0 Z0 TR2) hZ (hw _ (List.mem_of_getElem? (i := 13) rfl)) (hw _ (List.mem_of_getElem? (i := 12) rfl)) (by decide) (by decide)) (g := (mkF m 19 #[.val (.ref ad), .val (.int (0 : Int32))] [rt, (.int ((1 : Int32) + c1))])) rfl (by rw [hml]; rfl) (argsL := [rt]) (rest := [(.int ((1 : Int32) + c1))]) (lenOf pd_5 rfl) rfl (by show 2 * 0 + _ ≤ _; exact Nat.le_of_eq rfl) (hb hby d4_19) (fun _ _ => ⟨rfl, e3, (by decide : 0 + 0 ≤ _), (by decide : 0 + 0 ≤ _)⟩)
    dsimp only [Pt.U, Pt.locs, Pt.cells, Pt.slots] at X4 l4 y4 z4 st4 hQ4
    subst l4 y4 z4
    obtain ⟨rfl, Nq4, e4⟩ := hQ4
    have N4 := Fr.app N2 Nq4
    replace e4 : T4.heap = h0 := e4
    refine own_via st4 ?_
    show OwnEnds p.tables e below _ (T4.setTop (mkF m 22 #[.val (.ref ad), .val (.int (0 : Int32))] [(.int c2), (.int ((1 : Int32) + c1))]))
    refine own_via (fun t k => XS.iadd X4.here hx rfl (hb hby d4_22) rfl k) ?_
    show OwnEnds p.tables e below _ (T4.setTop (mkF m 23 #[.val (.ref ad), .val (.int (0 : Int32))] [(.int (((1 : Int32) + c1) + c2))]))
    refine own_via (fun t k => XS.istoreN X4.here hx rfl (hb hby d4_23) rfl (l' := #[.val (.ref ad), .val (.int (((1 : Int32) + c1) + c2))]) rfl k) ?_
    show OwnEnds p.tables e below _ (T4.setTop (mkF m 24 #[.val (.ref ad), .val (.int (((1 : Int32) + c1) + c2))] []))
    refine own_via (fun t k => XS.iloadN X4.here hx rfl (hb hby d4_24) rfl k) ?_
    show OwnEnds p.tables e below _ (T4.setTop (mkF m 25 #[.val (.ref ad), .val (.int (((1 : Int32) + c1) + c2))] [(.int (((1 : Int32) + c1) + c2))]))
    refine own_retI X4 hx Bd.returns hlk (hb hby d4_25) ?_ (by decide) (by decide)
    rw [e4]
    exact ⟨rfl, N4, rfl⟩
theorem ef_42 (m : MethodId) (w0 : Value) (hr_w0 : w0.isRef = true) : entryFrame m #[w0] 2 = mkF m 0 #[.val w0, .unset] [] := by
  rcases ref_cases hr_w0 with rfl | ⟨w0', rfl⟩ <;> first | (simp [entryFrame, mkF, argsToLocals, Value.category]; done) | rfl
def Q42 (Z : State) (w0 : Value) (c0 : Int32) (h0 : Heap) (n0 : Nat) (v : Option Value) (h : Heap) (L : List Loc) : Prop := v = some (.int c0) ∧ Fr n0 L ∧ h = h0
set_option maxRecDepth 65536 in
set_option maxHeartbeats 40000000 in
theorem rm42 (l : Launch) (Z : State) (aw : Array Value) (hw : ∀ d ∈ tables_1, d.before aw Z = true) (ws : List Jvm.Cond) (w0 : Value) (c0 : Int32) (h0 : Heap) (n0 : Nat) (Z0 : n0 ≤ h0.size) (hT : OwnT Z h0 2 w0 c0) :
    MetFree l (⟨"com/example/rowan/rowan/Node", "count", "(Lcom/example/rowan/rowan/Node;)I"⟩ : MethodName) (head1 (Jvm.Cond.code (⟨"com/example/rowan/rowan/Node", "count", "(Lcom/example/rowan/rowan/Node;)I"⟩ : MethodName) prog_16_method_15_code 2 (some .int) :: ws) ({ frames := 2, cells := 0, slots := 0, locals := 28 } : Room)) (fun a U => a = #[w0] ∧ Z.Warmed39 U.vm ∧ U.heap = h0) (fun _ _ _ _ _ => True) (fun _ U o U' => ∃ v L, o = .returned v ∧ Q42 Z w0 c0 h0 n0 v U'.heap L ∧ FrameEnd U o U' L ({ frames := 2, cells := 0, slots := 0, locals := 28 } : Room).cells ({ frames := 2, cells := 0, slots := 0, locals := 28 } : Room).slots) := by
  refine MetFree.of_bodySF (plainFor_of_name pn_3) hisR ?_
  intro p e s m args below meth c s₁ Bd hml0 hP hK
  obtain ⟨rfl, hZ, hh⟩ := hP
  have hx := Bd.exec
  have hby := Bd.bytes
  have hml : c.maxLocals = 2 := hml0
  have hown : s.vm.findClass "com/example/rowan/rowan/Node" = some m.cls := findClass_of_methodNamed Bd.named
  have hnm := (name_of_methodNamed Bd.named Bd.method).1
  have hlk : meth.locks = false := Bd.notSynchronized
  have X0 : Stand p l e ({ frames := 2, cells := 0, slots := 0, locals := 28 } : Room) s m #[w0] below meth c s₁ [] 0 0 := Stand.of_body Bd
  have e0 : s₁.heap = h0 := by rw [← hh, Bd.state]; rfl
  have N0 := Fr.nil n0
  show OwnEnds p.tables e below (OwnQ s ({ frames := 2, cells := 0, slots := 0, locals := 28 } : Room).cells ({ frames := 2, cells := 0, slots := 0, locals := 28 } : Room).slots (Q42 Z w0 c0 h0 n0)) (s₁.setTop (entryFrame m #[w0] 2))
  have hr_w0 := hT.isRef
  refine own_via (fun t k => castTop (ef_42 m w0 hr_w0) k) ?_
  show OwnEnds p.tables e below _ (s₁.setTop (mkF m 0 #[.val w0, .unset] []))
  rcases hT with ⟨rfl, rfl⟩ | ⟨ad, lf, rt, c1, c2, rfl, F_l, F_r, TR1, TR2, rfl⟩
  · skip
    show OwnEnds p.tables e below _ (s₁.setTop (mkF m 0 #[.val .null, .unset] []))
    refine own_via (fun t k => XS.iconst X0.here hx rfl (hb hby d4_0) k) ?_
    show OwnEnds p.tables e below _ (s₁.setTop (mkF m 1 #[.val .null, .unset] [(.int (0 : Int32))]))
    refine own_via (fun t k => XS.istoreN X0.here hx rfl (hb hby d4_1) rfl (l' := #[.val .null, .val (.int (0 : Int32))]) rfl k) ?_
    show OwnEnds p.tables e below _ (s₁.setTop (mkF m 2 #[.val .null, .val (.int (0 : Int32))] []))
    refine own_via (fun t k => XS.aloadN X0.here hx rfl (hb hby d4_2) rfl rfl k) ?_
    show OwnEnds p.tables e below _ (s₁.setTop (mkF m 3 #[.val .null, .val (.int (0 : Int32))] [.null]))
    refine own_via (fun t k => XS.ifnullYes X0.here hx rfl (pc0 := 3) (pc' := 24) rfl (hb hby d4_3) rfl (by decide) (by decide) k) ?_
    show OwnEnds p.tables e below _ (s₁.setTop (mkF m 24 #[.val .null, .val (.int (0 : Int32))] []))
    refine own_via (fun t k => XS.iloadN X0.here hx rfl (hb hby d4_24) rfl k) ?_
    show OwnEnds p.tables e below _ (s₁.setTop (mkF m 25 #[.val .null, .val (.int (0 : Int32))] [(.int (0 : Int32))]))
    refine own_retI X0 hx Bd.returns hlk (hb hby d4_25) ?_ (by decide) (by decide)
    rw [e0]
    exact ⟨rfl, N0, rfl⟩
  · skip
    have hr_lf := TR1.isRef
    have hr_rt := TR2.isRef
    show OwnEnds p.tables e below _ (s₁.setTop (mkF m 0 #[.val (.ref ad), .unset] []))
    refine own_via (fun t k => XS.iconst X0.here hx rfl (hb hby d4_0) k) ?_
    show OwnEnds p.tables e below _ (s₁.setTop (mkF m 1 #[.val (.ref ad), .unset] [(.int (0 : Int32))]))
    refine own_via (fun t k => XS.istoreN X0.here hx rfl (hb hby d4_1) rfl (l' := #[.val (.ref ad), .val (.int (0 : Int32))]) rfl k) ?_
    show OwnEnds p.tables e below _ (s₁.setTop (mkF m 2 #[.val (.ref ad), .val (.int (0 : Int32))] []))
    refine own_via (fun t k => XS.aloadN X0.here hx rfl (hb hby d4_2) rfl rfl k) ?_
    show OwnEnds p.tables e below _ (s₁.setTop (mkF m 3 #[.val (.ref ad), .val (.int (0 : Int32))] [(.ref ad)]))
    refine own_via (fun t k => XS.ifnullNo X0.here hx rfl (hb hby d4_3) rfl k) ?_
    show OwnEnds p.tables e below _ (s₁.setTop (mkF m 6 #[.val (.ref ad), .val (.int (0 : Int32))] []))
    refine own_via (fun t k => XS.iconst X0.here hx rfl (hb hby d4_6) k) ?_
    show OwnEnds p.tables e below _ (s₁.setTop (mkF m 7 #[.val (.ref ad), .val (.int (0 : Int32))] [(.int (1 : Int32))]))
    refine own_via (fun t k => XS.aloadN X0.here hx rfl (hb hby d4_7) rfl rfl k) ?_
    show OwnEnds p.tables e below _ (s₁.setTop (mkF m 8 #[.val (.ref ad), .val (.int (0 : Int32))] [(.ref ad), (.int (1 : Int32))]))
    obtain ⟨T1, X1, e1, st1⟩ := getF X0 hx hZ hown (host := "") (Or.inl (hw _ (List.mem_of_getElem? (i := 55) rfl))) Via.refl e0 F_l (g := (mkF m 8 #[.val (.ref ad), .val (.int (0 : Int32))] [(.ref ad), (.int (1 : Int32))])) rfl rfl (hb hby d4_8)
    refine own_via st1 ?_
    show OwnEnds p.tables e below _ (T1.setTop (mkF m 11 #[.val (.ref ad), .val (.int (0 : Int32))] [lf, (.int (1 : Int32))]))
    obtain ⟨_, _, ⟨T2, L2, k2, n2⟩, -, X2, ⟨Lc2, hQ2, l2, y2, z2⟩, st2⟩ := Jvm.LawKit.callS X1 hx (y := (⟨"com/example/rowan/rowan/Node", "count", "(Lcom/example/rowan/rowan/Node;)I"⟩ : MethodName)) hown (mvT hZ (hw _ (List.mem_of_getElem? (i := 56) rfl))) (mvT hZ (hw _ (List.mem_of_getElem? (i := 11) rfl))) (mvT hZ (hw _ (List.mem_of_getElem? (i := 12) rfl))) (mvT hZ (hw _ (List.mem_of_getElem? (i := 13) rfl))) (by decide) (backOf (W := 1) (rm41 l Z aw hw [] lf c1 h0 n0 Z0 TR1) hZ (hw _ (List.mem_of_getElem? (i := 13) rfl)) (hw _ (List.mem_of_getElem? (i := 12) rfl)) (by decide) (by decide)) (g := (mkF m 11 #[.val (.ref ad), .val (.int (0 : Int32))] [lf, (.int (1 : Int32))])) rfl (by rw [hml]; rfl) (argsL := [lf]) (rest := [(.int (1 : Int32))]) (lenOf pd_5 rfl) rfl (by show 2 * 0 + _ ≤ _; exact Nat.le_of_eq rfl) (hb hby d4_11) (fun _ _ => ⟨rfl, e1, (by decide : 0 + 0 ≤ _), (by decide : 0 + 0 ≤ _)⟩)
    dsimp only [Pt.U, Pt.locs, Pt.cells, Pt.slots] at X2 l2 y2 z2 st2 hQ2
    subst l2 y2 z2
    obtain ⟨rfl, Nq2, e2⟩ := hQ2
    have N2 := Fr.app N0 Nq2
    replace e2 : T2.heap = h0 := e2
    refine own_via st2 ?_
    show OwnEnds p.tables e below _ (T2.setTop (mkF m 14 #[.val (.ref ad), .val (.int (0 : Int32))] [(.int c1), (.int (1 : Int32))]))
    refine own_via (fun t k => XS.iadd X2.here hx rfl (hb hby d4_14) rfl k) ?_
    show OwnEnds p.tables e below _ (T2.setTop (mkF m 15 #[.val (.ref ad), .val (.int (0 : Int32))] [(.int ((1 : Int32) + c1))]))
    refine own_via (fun t k => XS.aloadN X2.here hx rfl (hb hby d4_15) rfl rfl k) ?_
    show OwnEnds p.tables e below _ (T2.setTop (mkF m 16 #[.val (.ref ad), .val (.int (0 : Int32))] [(.ref ad), (.int ((1 : Int32) + c1))]))
    obtain ⟨T3, X3, e3, st3⟩ := getF X2 hx hZ hown (host := "") (Or.inl (hw _ (List.mem_of_getElem? (i := 57) rfl))) Via.refl e2 F_r (g := (mkF m 16 #[.val (.ref ad), .val (.int (0 : Int32))] [(.ref ad), (.int ((1 : Int32) + c1))])) rfl rfl (hb hby d4_16)
    refine own_via st3 ?_
    show OwnEnds p.tables e below _ (T3.setTop (mkF m 19 #[.val (.ref ad), .val (.int (0 : Int32))] [rt, (.int ((1 : Int32) + c1))]))
    obtain ⟨_, _, ⟨T4, L4, k4, n4⟩, -, X4, ⟨Lc4, hQ4, l4, y4, z4⟩, st4⟩ := Jvm.LawKit.callS X3 hx (y := (⟨"com/example/rowan/rowan/Node", "count", "(Lcom/example/rowan/rowan/Node;)I"⟩ : MethodName)) hown (mvT hZ (hw _ (List.mem_of_getElem? (i := 56) rfl))) (mvT hZ (hw _ (List.mem_of_getElem? (i := 11) rfl))) (mvT hZ (hw _ (List.mem_of_getElem? (i := 12) rfl))) (mvT hZ (hw _ (List.mem_of_getElem? (i := 13) rfl))) (by decide) (backOf (W := 1) (rm41 l Z aw hw [] rt c2 h0 n0 Z0 TR2) hZ (hw _ (List.mem_of_getElem? (i := 13) rfl)) (hw _ (List.mem_of_getElem? (i := 12) rfl)) (by decide) (by decide)) (g := (mkF m 19 #[.val (.ref ad), .val (.int (0 : Int32))] [rt, (.int ((1 : Int32) + c1))])) rfl (by rw [hml]; rfl) (argsL := [rt]) (rest := [(.int ((1 : Int32) + c1))]) (lenOf pd_5 rfl) rfl (by show 2 * 0 + _ ≤ _; exact Nat.le_of_eq rfl) (hb hby d4_19) (fun _ _ => ⟨rfl, e3, (by decide : 0 + 0 ≤ _), (by decide : 0 + 0 ≤ _)⟩)
    dsimp only [Pt.U, Pt.locs, Pt.cells, Pt.slots] at X4 l4 y4 z4 st4 hQ4
    subst l4 y4 z4
    obtain ⟨rfl, Nq4, e4⟩ := hQ4
    have N4 := Fr.app N2 Nq4
    replace e4 : T4.heap = h0 := e4
    refine own_via st4 ?_
    show OwnEnds p.tables e below _ (T4.setTop (mkF m 22 #[.val (.ref ad), .val (.int (0 : Int32))] [(.int c2), (.int ((1 : Int32) + c1))]))
    refine own_via (fun t k => XS.iadd X4.here hx rfl (hb hby d4_22) rfl k) ?_
    show OwnEnds p.tables e below _ (T4.setTop (mkF m 23 #[.val (.ref ad), .val (.int (0 : Int32))] [(.int (((1 : Int32) + c1) + c2))]))
    refine own_via (fun t k => XS.istoreN X4.here hx rfl (hb hby d4_23) rfl (l' := #[.val (.ref ad), .val (.int (((1 : Int32) + c1) + c2))]) rfl k) ?_
    show OwnEnds p.tables e below _ (T4.setTop (mkF m 24 #[.val (.ref ad), .val (.int (((1 : Int32) + c1) + c2))] []))
    refine own_via (fun t k => XS.iloadN X4.here hx rfl (hb hby d4_24) rfl k) ?_
    show OwnEnds p.tables e below _ (T4.setTop (mkF m 25 #[.val (.ref ad), .val (.int (((1 : Int32) + c1) + c2))] [(.int (((1 : Int32) + c1) + c2))]))
    refine own_retI X4 hx Bd.returns hlk (hb hby d4_25) ?_ (by decide) (by decide)
    rw [e4]
    exact ⟨rfl, N4, rfl⟩
theorem ef_43 (m : MethodId) (w0 : Value) (hr_w0 : w0.isRef = true) : entryFrame m #[w0] 2 = mkF m 0 #[.val w0, .unset] [] := by
  rcases ref_cases hr_w0 with rfl | ⟨w0', rfl⟩ <;> first | (simp [entryFrame, mkF, argsToLocals, Value.category]; done) | rfl
def Q43 (Z : State) (w0 : Value) (c0 : Int32) (h0 : Heap) (n0 : Nat) (v : Option Value) (h : Heap) (L : List Loc) : Prop := v = some (.int c0) ∧ Fr n0 L ∧ h = h0
set_option maxRecDepth 65536 in
set_option maxHeartbeats 40000000 in
theorem rm43 (l : Launch) (Z : State) (aw : Array Value) (hw : ∀ d ∈ tables_1, d.before aw Z = true) (ws : List Jvm.Cond) (w0 : Value) (c0 : Int32) (h0 : Heap) (n0 : Nat) (Z0 : n0 ≤ h0.size) (hT : OwnT Z h0 3 w0 c0) :
    MetFree l (⟨"com/example/rowan/rowan/Node", "count", "(Lcom/example/rowan/rowan/Node;)I"⟩ : MethodName) (head1 (Jvm.Cond.code (⟨"com/example/rowan/rowan/Node", "count", "(Lcom/example/rowan/rowan/Node;)I"⟩ : MethodName) prog_16_method_15_code 2 (some .int) :: ws) ({ frames := 3, cells := 0, slots := 0, locals := 42 } : Room)) (fun a U => a = #[w0] ∧ Z.Warmed39 U.vm ∧ U.heap = h0) (fun _ _ _ _ _ => True) (fun _ U o U' => ∃ v L, o = .returned v ∧ Q43 Z w0 c0 h0 n0 v U'.heap L ∧ FrameEnd U o U' L ({ frames := 3, cells := 0, slots := 0, locals := 42 } : Room).cells ({ frames := 3, cells := 0, slots := 0, locals := 42 } : Room).slots) := by
  refine MetFree.of_bodySF (plainFor_of_name pn_3) hisR ?_
  intro p e s m args below meth c s₁ Bd hml0 hP hK
  obtain ⟨rfl, hZ, hh⟩ := hP
  have hx := Bd.exec
  have hby := Bd.bytes
  have hml : c.maxLocals = 2 := hml0
  have hown : s.vm.findClass "com/example/rowan/rowan/Node" = some m.cls := findClass_of_methodNamed Bd.named
  have hnm := (name_of_methodNamed Bd.named Bd.method).1
  have hlk : meth.locks = false := Bd.notSynchronized
  have X0 : Stand p l e ({ frames := 3, cells := 0, slots := 0, locals := 42 } : Room) s m #[w0] below meth c s₁ [] 0 0 := Stand.of_body Bd
  have e0 : s₁.heap = h0 := by rw [← hh, Bd.state]; rfl
  have N0 := Fr.nil n0
  show OwnEnds p.tables e below (OwnQ s ({ frames := 3, cells := 0, slots := 0, locals := 42 } : Room).cells ({ frames := 3, cells := 0, slots := 0, locals := 42 } : Room).slots (Q43 Z w0 c0 h0 n0)) (s₁.setTop (entryFrame m #[w0] 2))
  have hr_w0 := hT.isRef
  refine own_via (fun t k => castTop (ef_43 m w0 hr_w0) k) ?_
  show OwnEnds p.tables e below _ (s₁.setTop (mkF m 0 #[.val w0, .unset] []))
  rcases hT with ⟨rfl, rfl⟩ | ⟨ad, lf, rt, c1, c2, rfl, F_l, F_r, TR1, TR2, rfl⟩
  · skip
    show OwnEnds p.tables e below _ (s₁.setTop (mkF m 0 #[.val .null, .unset] []))
    refine own_via (fun t k => XS.iconst X0.here hx rfl (hb hby d4_0) k) ?_
    show OwnEnds p.tables e below _ (s₁.setTop (mkF m 1 #[.val .null, .unset] [(.int (0 : Int32))]))
    refine own_via (fun t k => XS.istoreN X0.here hx rfl (hb hby d4_1) rfl (l' := #[.val .null, .val (.int (0 : Int32))]) rfl k) ?_
    show OwnEnds p.tables e below _ (s₁.setTop (mkF m 2 #[.val .null, .val (.int (0 : Int32))] []))
    refine own_via (fun t k => XS.aloadN X0.here hx rfl (hb hby d4_2) rfl rfl k) ?_
    show OwnEnds p.tables e below _ (s₁.setTop (mkF m 3 #[.val .null, .val (.int (0 : Int32))] [.null]))
    refine own_via (fun t k => XS.ifnullYes X0.here hx rfl (pc0 := 3) (pc' := 24) rfl (hb hby d4_3) rfl (by decide) (by decide) k) ?_
    show OwnEnds p.tables e below _ (s₁.setTop (mkF m 24 #[.val .null, .val (.int (0 : Int32))] []))
    refine own_via (fun t k => XS.iloadN X0.here hx rfl (hb hby d4_24) rfl k) ?_
    show OwnEnds p.tables e below _ (s₁.setTop (mkF m 25 #[.val .null, .val (.int (0 : Int32))] [(.int (0 : Int32))]))
    refine own_retI X0 hx Bd.returns hlk (hb hby d4_25) ?_ (by decide) (by decide)
    rw [e0]
    exact ⟨rfl, N0, rfl⟩
  · skip
    have hr_lf := TR1.isRef
    have hr_rt := TR2.isRef
    show OwnEnds p.tables e below _ (s₁.setTop (mkF m 0 #[.val (.ref ad), .unset] []))
    refine own_via (fun t k => XS.iconst X0.here hx rfl (hb hby d4_0) k) ?_
    show OwnEnds p.tables e below _ (s₁.setTop (mkF m 1 #[.val (.ref ad), .unset] [(.int (0 : Int32))]))
    refine own_via (fun t k => XS.istoreN X0.here hx rfl (hb hby d4_1) rfl (l' := #[.val (.ref ad), .val (.int (0 : Int32))]) rfl k) ?_
    show OwnEnds p.tables e below _ (s₁.setTop (mkF m 2 #[.val (.ref ad), .val (.int (0 : Int32))] []))
    refine own_via (fun t k => XS.aloadN X0.here hx rfl (hb hby d4_2) rfl rfl k) ?_
    show OwnEnds p.tables e below _ (s₁.setTop (mkF m 3 #[.val (.ref ad), .val (.int (0 : Int32))] [(.ref ad)]))
    refine own_via (fun t k => XS.ifnullNo X0.here hx rfl (hb hby d4_3) rfl k) ?_
    show OwnEnds p.tables e below _ (s₁.setTop (mkF m 6 #[.val (.ref ad), .val (.int (0 : Int32))] []))
    refine own_via (fun t k => XS.iconst X0.here hx rfl (hb hby d4_6) k) ?_
    show OwnEnds p.tables e below _ (s₁.setTop (mkF m 7 #[.val (.ref ad), .val (.int (0 : Int32))] [(.int (1 : Int32))]))
    refine own_via (fun t k => XS.aloadN X0.here hx rfl (hb hby d4_7) rfl rfl k) ?_
    show OwnEnds p.tables e below _ (s₁.setTop (mkF m 8 #[.val (.ref ad), .val (.int (0 : Int32))] [(.ref ad), (.int (1 : Int32))]))
    obtain ⟨T1, X1, e1, st1⟩ := getF X0 hx hZ hown (host := "") (Or.inl (hw _ (List.mem_of_getElem? (i := 55) rfl))) Via.refl e0 F_l (g := (mkF m 8 #[.val (.ref ad), .val (.int (0 : Int32))] [(.ref ad), (.int (1 : Int32))])) rfl rfl (hb hby d4_8)
    refine own_via st1 ?_
    show OwnEnds p.tables e below _ (T1.setTop (mkF m 11 #[.val (.ref ad), .val (.int (0 : Int32))] [lf, (.int (1 : Int32))]))
    obtain ⟨_, _, ⟨T2, L2, k2, n2⟩, -, X2, ⟨Lc2, hQ2, l2, y2, z2⟩, st2⟩ := Jvm.LawKit.callS X1 hx (y := (⟨"com/example/rowan/rowan/Node", "count", "(Lcom/example/rowan/rowan/Node;)I"⟩ : MethodName)) hown (mvT hZ (hw _ (List.mem_of_getElem? (i := 56) rfl))) (mvT hZ (hw _ (List.mem_of_getElem? (i := 11) rfl))) (mvT hZ (hw _ (List.mem_of_getElem? (i := 12) rfl))) (mvT hZ (hw _ (List.mem_of_getElem? (i := 13) rfl))) (by decide) (backOf (W := 1) (rm42 l Z aw hw [] lf c1 h0 n0 Z0 TR1) hZ (hw _ (List.mem_of_getElem? (i := 13) rfl)) (hw _ (List.mem_of_getElem? (i := 12) rfl)) (by decide) (by decide)) (g := (mkF m 11 #[.val (.ref ad), .val (.int (0 : Int32))] [lf, (.int (1 : Int32))])) rfl (by rw [hml]; rfl) (argsL := [lf]) (rest := [(.int (1 : Int32))]) (lenOf pd_5 rfl) rfl (by show 2 * 0 + _ ≤ _; exact Nat.le_of_eq rfl) (hb hby d4_11) (fun _ _ => ⟨rfl, e1, (by decide : 0 + 0 ≤ _), (by decide : 0 + 0 ≤ _)⟩)
    dsimp only [Pt.U, Pt.locs, Pt.cells, Pt.slots] at X2 l2 y2 z2 st2 hQ2
    subst l2 y2 z2
    obtain ⟨rfl, Nq2, e2⟩ := hQ2
    have N2 := Fr.app N0 Nq2
    replace e2 : T2.heap = h0 := e2
    refine own_via st2 ?_
    show OwnEnds p.tables e below _ (T2.setTop (mkF m 14 #[.val (.ref ad), .val (.int (0 : Int32))] [(.int c1), (.int (1 : Int32))]))
    refine own_via (fun t k => XS.iadd X2.here hx rfl (hb hby d4_14) rfl k) ?_
    show OwnEnds p.tables e below _ (T2.setTop (mkF m 15 #[.val (.ref ad), .val (.int (0 : Int32))] [(.int ((1 : Int32) + c1))]))
    refine own_via (fun t k => XS.aloadN X2.here hx rfl (hb hby d4_15) rfl rfl k) ?_
    show OwnEnds p.tables e below _ (T2.setTop (mkF m 16 #[.val (.ref ad), .val (.int (0 : Int32))] [(.ref ad), (.int ((1 : Int32) + c1))]))
    obtain ⟨T3, X3, e3, st3⟩ := getF X2 hx hZ hown (host := "") (Or.inl (hw _ (List.mem_of_getElem? (i := 57) rfl))) Via.refl e2 F_r (g := (mkF m 16 #[.val (.ref ad), .val (.int (0 : Int32))] [(.ref ad), (.int ((1 : Int32) + c1))])) rfl rfl (hb hby d4_16)
    refine own_via st3 ?_
    show OwnEnds p.tables e below _ (T3.setTop (mkF m 19 #[.val (.ref ad), .val (.int (0 : Int32))] [rt, (.int ((1 : Int32) + c1))]))
    obtain ⟨_, _, ⟨T4, L4, k4, n4⟩, -, X4, ⟨Lc4, hQ4, l4, y4, z4⟩, st4⟩ := Jvm.LawKit.callS X3 hx (y := (⟨"com/example/rowan/rowan/Node", "count", "(Lcom/example/rowan/rowan/Node;)I"⟩ : MethodName)) hown (mvT hZ (hw _ (List.mem_of_getElem? (i := 56) rfl))) (mvT hZ (hw _ (List.mem_of_getElem? (i := 11) rfl))) (mvT hZ (hw _ (List.mem_of_getElem? (i := 12) rfl))) (mvT hZ (hw _ (List.mem_of_getElem? (i := 13) rfl))) (by decide) (backOf (W := 1) (rm42 l Z aw hw [] rt c2 h0 n0 Z0 TR2) hZ (hw _ (List.mem_of_getElem? (i := 13) rfl)) (hw _ (List.mem_of_getElem? (i := 12) rfl)) (by decide) (by decide)) (g := (mkF m 19 #[.val (.ref ad), .val (.int (0 : Int32))] [rt, (.int ((1 : Int32) + c1))])) rfl (by rw [hml]; rfl) (argsL := [rt]) (rest := [(.int ((1 : Int32) + c1))]) (lenOf pd_5 rfl) rfl (by show 2 * 0 + _ ≤ _; exact Nat.le_of_eq rfl) (hb hby d4_19) (fun _ _ => ⟨rfl, e3, (by decide : 0 + 0 ≤ _), (by decide : 0 + 0 ≤ _)⟩)
    dsimp only [Pt.U, Pt.locs, Pt.cells, Pt.slots] at X4 l4 y4 z4 st4 hQ4
    subst l4 y4 z4
    obtain ⟨rfl, Nq4, e4⟩ := hQ4
    have N4 := Fr.app N2 Nq4
    replace e4 : T4.heap = h0 := e4
    refine own_via st4 ?_
    show OwnEnds p.tables e below _ (T4.setTop (mkF m 22 #[.val (.ref ad), .val (.int (0 : Int32))] [(.int c2), (.int ((1 : Int32) + c1))]))
    refine own_via (fun t k => XS.iadd X4.here hx rfl (hb hby d4_22) rfl k) ?_
    show OwnEnds p.tables e below _ (T4.setTop (mkF m 23 #[.val (.ref ad), .val (.int (0 : Int32))] [(.int (((1 : Int32) + c1) + c2))]))
    refine own_via (fun t k => XS.istoreN X4.here hx rfl (hb hby d4_23) rfl (l' := #[.val (.ref ad), .val (.int (((1 : Int32) + c1) + c2))]) rfl k) ?_
    show OwnEnds p.tables e below _ (T4.setTop (mkF m 24 #[.val (.ref ad), .val (.int (((1 : Int32) + c1) + c2))] []))
    refine own_via (fun t k => XS.iloadN X4.here hx rfl (hb hby d4_24) rfl k) ?_
    show OwnEnds p.tables e below _ (T4.setTop (mkF m 25 #[.val (.ref ad), .val (.int (((1 : Int32) + c1) + c2))] [(.int (((1 : Int32) + c1) + c2))]))
    refine own_retI X4 hx Bd.returns hlk (hb hby d4_25) ?_ (by decide) (by decide)
    rw [e4]
    exact ⟨rfl, N4, rfl⟩
theorem ef_0 (m : MethodId) (p0 : Int32) (p1 : Int32) : entryFrame m #[(.int p0), (.int p1)] maxLocals = mkF m 0 #[.val (.int p0), .val (.int p1), .unset, .unset, .unset, .unset, .unset, .unset, .unset, .unset, .unset, .unset, .unset, .unset, .unset, .unset, .unset] [] := by first | (simp [entryFrame, mkF, argsToLocals, Value.category, maxLocals]; done) | rfl
def Q0 (Z : State) (p0 : Int32) (p1 : Int32) (ca : Addr) (cx : List Value) (h0 : Heap) (n0 : Nat) (v : Option Value) (h : Heap) (L : List Loc) : Prop := v = some (.int 1) ∧ Fr n0 L
theorem pd_6 : parseMethodDescriptor "(III)Lcom/example/rowan/rowan/Node;" = some ⟨[.int, .int, .int], some (.object "com/example/rowan/rowan/Node")⟩ := by decide +kernel
theorem pd_7 : parseMethodDescriptor "(Lcom/example/rowan/rowan/Node;Lcom/example/rowan/rowan/Node;Lcom/example/rowan/rowan/Node;)V" = some ⟨[(.object "com/example/rowan/rowan/Node"), (.object "com/example/rowan/rowan/Node"), (.object "com/example/rowan/rowan/Node")], none⟩ := by decide +kernel
set_option maxRecDepth 65536 in
set_option maxHeartbeats 40000000 in
theorem rm0 (l : Launch) (Z : State) (aw : Array Value) (hw : ∀ d ∈ tables_1, d.before aw Z = true) (ws : List Jvm.Cond) (p0 : Int32) (p1 : Int32) (ca : Addr) (cx : List Value) (h0 : Heap) (n0 : Nat) (Z0 : n0 ≤ h0.size) (S_high : Sta Z Z.heap "java/lang/Integer$IntegerCache" "high" "I" (.int (127 : Int32))) (S_cache : Sta Z Z.heap "java/lang/Integer$IntegerCache" "cache" "[Ljava/lang/Integer;" (.ref ca)) (A_ca : AL Z Z.heap ca (.object "java/lang/Integer") cx) (hcl : cx.length = 256) (hcr : ∀ w ∈ cx, w.isRef = true) (O0 : Old Z n0 h0) :
    MetFree l x (head1 (Jvm.Cond.code x code maxLocals ret :: ws) room_1) (fun a U => a = #[(.int p0), (.int p1)] ∧ Z.Warmed39 U.vm ∧ U.heap = h0) (fun _ _ _ _ _ => True) (fun _ U o U' => ∃ v L, o = .returned v ∧ Q0 Z p0 p1 ca cx h0 n0 v U'.heap L ∧ FrameEnd U o U' L 56 192) := by
  refine MetFree.of_bodySF (plainFor_of_name pn_0) hisR ?_
  intro p e s m args below meth c s₁ Bd hml0 hP hK
  obtain ⟨rfl, hZ, hh⟩ := hP
  have hx := Bd.exec
  have hby := Bd.bytes
  have hml : c.maxLocals = 17 := hml0
  have hown : s.vm.findClass "com/example/rowan/rowan/NodeCountPinLaw" = some m.cls := findClass_of_methodNamed Bd.named
  have hnm := (name_of_methodNamed Bd.named Bd.method).1
  have hlk : meth.locks = false := Bd.notSynchronized
  have X0 : Stand p l e room_1 s m #[(.int p0), (.int p1)] below meth c s₁ [] 0 0 := Stand.of_body Bd
  have e0 : s₁.heap = h0 := by rw [← hh, Bd.state]; rfl
  have N0 := Fr.nil n0
  show OwnEnds p.tables e below (OwnQ s 56 192 (Q0 Z p0 p1 ca cx h0 n0)) (s₁.setTop (entryFrame m #[(.int p0), (.int p1)] maxLocals))
  refine own_via (fun t k => castTop (ef_0 m p0 p1) k) ?_
  show OwnEnds p.tables e below _ (s₁.setTop (mkF m 0 #[.val (.int p0), .val (.int p1), .unset, .unset, .unset, .unset, .unset, .unset, .unset, .unset, .unset, .unset, .unset, .unset, .unset, .unset, .unset] []))
  refine own_via (fun t k => XS.iloadN X0.here hx rfl (hb hby at_0) rfl k) ?_
  show OwnEnds p.tables e below _ (s₁.setTop (mkF m 1 #[.val (.int p0), .val (.int p1), .unset, .unset, .unset, .unset, .unset, .unset, .unset, .unset, .unset, .unset, .unset, .unset, .unset, .unset, .unset] [(.int p0)]))
  refine own_via (fun t k => XS.iconst X0.here hx rfl (hb hby at_1) k) ?_
  show OwnEnds p.tables e below _ (s₁.setTop (mkF m 2 #[.val (.int p0), .val (.int p1), .unset, .unset, .unset, .unset, .unset, .unset, .unset, .unset, .unset, .unset, .unset, .unset, .unset, .unset, .unset] [(.int (0 : Int32)), (.int p0)]))
  refine own_via (fun t k => XS.iloadN X0.here hx rfl (hb hby at_2) rfl k) ?_
  show OwnEnds p.tables e below _ (s₁.setTop (mkF m 3 #[.val (.int p0), .val (.int p1), .unset, .unset, .unset, .unset, .unset, .unset, .unset, .unset, .unset, .unset, .unset, .unset, .unset, .unset, .unset] [(.int p1), (.int (0 : Int32)), (.int p0)]))
  obtain ⟨_, _, ⟨T1, L1, k1, n1⟩, -, X1, ⟨Lc1, hQ1, l1, y1, z1⟩, st1⟩ := Jvm.LawKit.callS X0 hx (y := (⟨"com/example/rowan/rowan/NodeCountPinLaw", "mk", "(III)Lcom/example/rowan/rowan/Node;"⟩ : MethodName)) hown (mvT hZ (hw _ (List.mem_of_getElem? (i := 0) rfl))) (mvT hZ (hw _ (List.mem_of_getElem? (i := 1) rfl))) (mvT hZ (hw _ (List.mem_of_getElem? (i := 2) rfl))) (mvT hZ (hw _ (List.mem_of_getElem? (i := 3) rfl))) (by decide) (backOf (W := 0) (rm1 l Z aw hw [] p0 (0 : Int32) p1 ca cx h0 n0 Z0 S_high S_cache A_ca hcl hcr O0) hZ (hw _ (List.mem_of_getElem? (i := 3) rfl)) (hw _ (List.mem_of_getElem? (i := 2) rfl)) (by decide) (by decide)) (g := (mkF m 3 #[.val (.int p0), .val (.int p1), .unset, .unset, .unset, .unset, .unset, .unset, .unset, .unset, .unset, .unset, .unset, .unset, .unset, .unset, .unset] [(.int p1), (.int (0 : Int32)), (.int p0)])) rfl (by rw [hml]; rfl) (argsL := [(.int p0), (.int (0 : Int32)), (.int p1)]) (rest := []) (lenOf pd_6 rfl) rfl (by show 2 * 0 + _ ≤ _; exact Nat.le_of_eq rfl) (hb hby at_3) (fun _ _ => ⟨rfl, e0, (by decide : 0 + 3 ≤ _), (by decide : 0 + 9 ≤ _)⟩)
  dsimp only [Pt.U, Pt.locs, Pt.cells, Pt.slots] at X1 l1 y1 z1 st1 hQ1
  subst l1 y1 z1
  obtain ⟨h1, e1⟩ : ∃ z, T1.heap = z := ⟨_, rfl⟩
  rw [e1] at hQ1
  obtain ⟨n0v, rfl, Nq1, K1, HN0⟩ := hQ1
  have N1 := Fr.app N0 Nq1
  replace O0 := O0.keep K1 all0
  have Zs_1 : n0 ≤ _ := Nat.le_trans Z0 K1.1
  have hr_n0v := HN0.isRef
  have szK1 := K1.1
  refine own_via st1 ?_
  show OwnEnds p.tables e below _ (T1.setTop (mkF m 6 #[.val (.int p0), .val (.int p1), .unset, .unset, .unset, .unset, .unset, .unset, .unset, .unset, .unset, .unset, .unset, .unset, .unset, .unset, .unset] [n0v]))
  refine own_via (fun t k => XS.astoreN X1.here hx rfl (hb hby at_6) rfl hr_n0v (l' := #[.val (.int p0), .val (.int p1), .val n0v, .unset, .unset, .unset, .unset, .unset, .unset, .unset, .unset, .unset, .unset, .unset, .unset, .unset, .unset]) (XS.store1 rfl (Or.inl rfl) (own_cat hr_n0v)) k) ?_
  show OwnEnds p.tables e below _ (T1.setTop (mkF m 7 #[.val (.int p0), .val (.int p1), .val n0v, .unset, .unset, .unset, .unset, .unset, .unset, .unset, .unset, .unset, .unset, .unset, .unset, .unset, .unset] []))
  refine own_via (fun t k => XS.iloadN X1.here hx rfl (hb hby at_7) rfl k) ?_
  show OwnEnds p.tables e below _ (T1.setTop (mkF m 8 #[.val (.int p0), .val (.int p1), .val n0v, .unset, .unset, .unset, .unset, .unset, .unset, .unset, .unset, .unset, .unset, .unset, .unset, .unset, .unset] [(.int p0)]))
  refine own_via (fun t k => XS.iconst X1.here hx rfl (hb hby at_8) k) ?_
  show OwnEnds p.tables e below _ (T1.setTop (mkF m 9 #[.val (.int p0), .val (.int p1), .val n0v, .unset, .unset, .unset, .unset, .unset, .unset, .unset, .unset, .unset, .unset, .unset, .unset, .unset, .unset] [(.int (1 : Int32)), (.int p0)]))
  refine own_via (fun t k => XS.iloadN X1.here hx rfl (hb hby at_9) rfl k) ?_
  show OwnEnds p.tables e below _ (T1.setTop (mkF m 10 #[.val (.int p0), .val (.int p1), .val n0v, .unset, .unset, .unset, .unset, .unset, .unset, .unset, .unset, .unset, .unset, .unset, .unset, .unset, .unset] [(.int p1), (.int (1 : Int32)), (.int p0)]))
  obtain ⟨_, _, ⟨T2, L2, k2, n2⟩, -, X2, ⟨Lc2, hQ2, l2, y2, z2⟩, st2⟩ := Jvm.LawKit.callS X1 hx (y := (⟨"com/example/rowan/rowan/NodeCountPinLaw", "mk", "(III)Lcom/example/rowan/rowan/Node;"⟩ : MethodName)) hown (mvT hZ (hw _ (List.mem_of_getElem? (i := 0) rfl))) (mvT hZ (hw _ (List.mem_of_getElem? (i := 1) rfl))) (mvT hZ (hw _ (List.mem_of_getElem? (i := 2) rfl))) (mvT hZ (hw _ (List.mem_of_getElem? (i := 3) rfl))) (by decide) (backOf (W := 0) (rm1 l Z aw hw [] p0 (1 : Int32) p1 ca cx h1 n0 Zs_1 S_high S_cache A_ca hcl hcr O0) hZ (hw _ (List.mem_of_getElem? (i := 3) rfl)) (hw _ (List.mem_of_getElem? (i := 2) rfl)) (by decide) (by decide)) (g := (mkF m 10 #[.val (.int p0), .val (.int p1), .val n0v, .unset, .unset, .unset, .unset, .unset, .unset, .unset, .unset, .unset, .unset, .unset, .unset, .unset, .unset] [(.int p1), (.int (1 : Int32)), (.int p0)])) rfl (by rw [hml]; rfl) (argsL := [(.int p0), (.int (1 : Int32)), (.int p1)]) (rest := []) (lenOf pd_6 rfl) rfl (by show 2 * 0 + _ ≤ _; exact Nat.le_of_eq rfl) (hb hby at_10) (fun _ _ => ⟨rfl, e1, (by decide : 3 + 3 ≤ _), (by decide : 9 + 9 ≤ _)⟩)
  dsimp only [Pt.U, Pt.locs, Pt.cells, Pt.slots] at X2 l2 y2 z2 st2 hQ2
  subst l2 y2 z2
  obtain ⟨h2, e2⟩ : ∃ z, T2.heap = z := ⟨_, rfl⟩
  rw [e2] at hQ2
  obtain ⟨n1v, rfl, Nq2, K2, HN1⟩ := hQ2
  have N2 := Fr.app N1 Nq2
  replace HN0 : OwnN Z h2 h0.size h1.size n0v (own_bit p0 (0 : Int32)) .null .null := HN0.keep K2 (fun _ _ => nin0)
  replace O0 := O0.keep K2 all0
  have Zs_2 : n0 ≤ _ := Nat.le_trans Zs_1 K2.1
  have hr_n1v := HN1.isRef
  have szK2 := K2.1
  refine own_via st2 ?_
  show OwnEnds p.tables e below _ (T2.setTop (mkF m 13 #[.val (.int p0), .val (.int p1), .val n0v, .unset, .unset, .unset, .unset, .unset, .unset, .unset, .unset, .unset, .unset, .unset, .unset, .unset, .unset] [n1v]))
  refine own_via (fun t k => XS.astoreN X2.here hx rfl (hb hby at_13) rfl hr_n1v (l' := #[.val (.int p0), .val (.int p1), .val n0v, .val n1v, .unset, .unset, .unset, .unset, .unset, .unset, .unset, .unset, .unset, .unset, .unset, .unset, .unset]) (XS.store1 rfl (Or.inl rfl) (own_cat hr_n1v)) k) ?_
  show OwnEnds p.tables e below _ (T2.setTop (mkF m 14 #[.val (.int p0), .val (.int p1), .val n0v, .val n1v, .unset, .unset, .unset, .unset, .unset, .unset, .unset, .unset, .unset, .unset, .unset, .unset, .unset] []))
  refine own_via (fun t k => XS.iloadN X2.here hx rfl (hb hby at_14) rfl k) ?_
  show OwnEnds p.tables e below _ (T2.setTop (mkF m 15 #[.val (.int p0), .val (.int p1), .val n0v, .val n1v, .unset, .unset, .unset, .unset, .unset, .unset, .unset, .unset, .unset, .unset, .unset, .unset, .unset] [(.int p0)]))
  refine own_via (fun t k => XS.iconst X2.here hx rfl (hb hby at_15) k) ?_
  show OwnEnds p.tables e below _ (T2.setTop (mkF m 16 #[.val (.int p0), .val (.int p1), .val n0v, .val n1v, .unset, .unset, .unset, .unset, .unset, .unset, .unset, .unset, .unset, .unset, .unset, .unset, .unset] [(.int (2 : Int32)), (.int p0)]))
  refine own_via (fun t k => XS.iloadN X2.here hx rfl (hb hby at_16) rfl k) ?_
  show OwnEnds p.tables e below _ (T2.setTop (mkF m 17 #[.val (.int p0), .val (.int p1), .val n0v, .val n1v, .unset, .unset, .unset, .unset, .unset, .unset, .unset, .unset, .unset, .unset, .unset, .unset, .unset] [(.int p1), (.int (2 : Int32)), (.int p0)]))
  obtain ⟨_, _, ⟨T3, L3, k3, n3⟩, -, X3, ⟨Lc3, hQ3, l3, y3, z3⟩, st3⟩ := Jvm.LawKit.callS X2 hx (y := (⟨"com/example/rowan/rowan/NodeCountPinLaw", "mk", "(III)Lcom/example/rowan/rowan/Node;"⟩ : MethodName)) hown (mvT hZ (hw _ (List.mem_of_getElem? (i := 0) rfl))) (mvT hZ (hw _ (List.mem_of_getElem? (i := 1) rfl))) (mvT hZ (hw _ (List.mem_of_getElem? (i := 2) rfl))) (mvT hZ (hw _ (List.mem_of_getElem? (i := 3) rfl))) (by decide) (backOf (W := 0) (rm1 l Z aw hw [] p0 (2 : Int32) p1 ca cx h2 n0 Zs_2 S_high S_cache A_ca hcl hcr O0) hZ (hw _ (List.mem_of_getElem? (i := 3) rfl)) (hw _ (List.mem_of_getElem? (i := 2) rfl)) (by decide) (by decide)) (g := (mkF m 17 #[.val (.int p0), .val (.int p1), .val n0v, .val n1v, .unset, .unset, .unset, .unset, .unset, .unset, .unset, .unset, .unset, .unset, .unset, .unset, .unset] [(.int p1), (.int (2 : Int32)), (.int p0)])) rfl (by rw [hml]; rfl) (argsL := [(.int p0), (.int (2 : Int32)), (.int p1)]) (rest := []) (lenOf pd_6 rfl) rfl (by show 2 * 0 + _ ≤ _; exact Nat.le_of_eq rfl) (hb hby at_17) (fun _ _ => ⟨rfl, e2, (by decide : 6 + 3 ≤ _), (by decide : 18 + 9 ≤ _)⟩)
  dsimp only [Pt.U, Pt.locs, Pt.cells, Pt.slots] at X3 l3 y3 z3 st3 hQ3
  subst l3 y3 z3
  obtain ⟨h3, e3⟩ : ∃ z, T3.heap = z := ⟨_, rfl⟩
  rw [e3] at hQ3
  obtain ⟨n2v, rfl, Nq3, K3, HN2⟩ := hQ3
  have N3 := Fr.app N2 Nq3
  replace HN0 : OwnN Z h3 h0.size h1.size n0v (own_bit p0 (0 : Int32)) .null .null := HN0.keep K3 (fun _ _ => nin0)
  replace HN1 : OwnN Z h3 h1.size h2.size n1v (own_bit p0 (1 : Int32)) .null .null := HN1.keep K3 (fun _ _ => nin0)
  replace O0 := O0.keep K3 all0
  have Zs_3 : n0 ≤ _ := Nat.le_trans Zs_2 K3.1
  have hr_n2v := HN2.isRef
  have szK3 := K3.1
  refine own_via st3 ?_
  show OwnEnds p.tables e below _ (T3.setTop (mkF m 20 #[.val (.int p0), .val (.int p1), .val n0v, .val n1v, .unset, .unset, .unset, .unset, .unset, .unset, .unset, .unset, .unset, .unset, .unset, .unset, .unset] [n2v]))
  refine own_via (fun t k => XS.astore X3.here hx rfl (hb hby at_20) rfl hr_n2v (l' := #[.val (.int p0), .val (.int p1), .val n0v, .val n1v, .val n2v, .unset, .unset, .unset, .unset, .unset, .unset, .unset, .unset, .unset, .unset, .unset, .unset]) (XS.store1 rfl (Or.inl rfl) (own_cat hr_n2v)) k) ?_
  show OwnEnds p.tables e below _ (T3.setTop (mkF m 22 #[.val (.int p0), .val (.int p1), .val n0v, .val n1v, .val n2v, .unset, .unset, .unset, .unset, .unset, .unset, .unset, .unset, .unset, .unset, .unset, .unset] []))
  refine own_via (fun t k => XS.iloadN X3.here hx rfl (hb hby at_22) rfl k) ?_
  show OwnEnds p.tables e below _ (T3.setTop (mkF m 23 #[.val (.int p0), .val (.int p1), .val n0v, .val n1v, .val n2v, .unset, .unset, .unset, .unset, .unset, .unset, .unset, .unset, .unset, .unset, .unset, .unset] [(.int p0)]))
  refine own_via (fun t k => XS.iconst X3.here hx rfl (hb hby at_23) k) ?_
  show OwnEnds p.tables e below _ (T3.setTop (mkF m 24 #[.val (.int p0), .val (.int p1), .val n0v, .val n1v, .val n2v, .unset, .unset, .unset, .unset, .unset, .unset, .unset, .unset, .unset, .unset, .unset, .unset] [(.int (3 : Int32)), (.int p0)]))
  refine own_via (fun t k => XS.iloadN X3.here hx rfl (hb hby at_24) rfl k) ?_
  show OwnEnds p.tables e below _ (T3.setTop (mkF m 25 #[.val (.int p0), .val (.int p1), .val n0v, .val n1v, .val n2v, .unset, .unset, .unset, .unset, .unset, .unset, .unset, .unset, .unset, .unset, .unset, .unset] [(.int p1), (.int (3 : Int32)), (.int p0)]))
  obtain ⟨_, _, ⟨T4, L4, k4, n4⟩, -, X4, ⟨Lc4, hQ4, l4, y4, z4⟩, st4⟩ := Jvm.LawKit.callS X3 hx (y := (⟨"com/example/rowan/rowan/NodeCountPinLaw", "mk", "(III)Lcom/example/rowan/rowan/Node;"⟩ : MethodName)) hown (mvT hZ (hw _ (List.mem_of_getElem? (i := 0) rfl))) (mvT hZ (hw _ (List.mem_of_getElem? (i := 1) rfl))) (mvT hZ (hw _ (List.mem_of_getElem? (i := 2) rfl))) (mvT hZ (hw _ (List.mem_of_getElem? (i := 3) rfl))) (by decide) (backOf (W := 0) (rm1 l Z aw hw [] p0 (3 : Int32) p1 ca cx h3 n0 Zs_3 S_high S_cache A_ca hcl hcr O0) hZ (hw _ (List.mem_of_getElem? (i := 3) rfl)) (hw _ (List.mem_of_getElem? (i := 2) rfl)) (by decide) (by decide)) (g := (mkF m 25 #[.val (.int p0), .val (.int p1), .val n0v, .val n1v, .val n2v, .unset, .unset, .unset, .unset, .unset, .unset, .unset, .unset, .unset, .unset, .unset, .unset] [(.int p1), (.int (3 : Int32)), (.int p0)])) rfl (by rw [hml]; rfl) (argsL := [(.int p0), (.int (3 : Int32)), (.int p1)]) (rest := []) (lenOf pd_6 rfl) rfl (by show 2 * 0 + _ ≤ _; exact Nat.le_of_eq rfl) (hb hby at_25) (fun _ _ => ⟨rfl, e3, (by decide : 9 + 3 ≤ _), (by decide : 27 + 9 ≤ _)⟩)
  dsimp only [Pt.U, Pt.locs, Pt.cells, Pt.slots] at X4 l4 y4 z4 st4 hQ4
  subst l4 y4 z4
  obtain ⟨h4, e4⟩ : ∃ z, T4.heap = z := ⟨_, rfl⟩
  rw [e4] at hQ4
  obtain ⟨n3v, rfl, Nq4, K4, HN3⟩ := hQ4
  have N4 := Fr.app N3 Nq4
  replace HN0 : OwnN Z h4 h0.size h1.size n0v (own_bit p0 (0 : Int32)) .null .null := HN0.keep K4 (fun _ _ => nin0)
  replace HN1 : OwnN Z h4 h1.size h2.size n1v (own_bit p0 (1 : Int32)) .null .null := HN1.keep K4 (fun _ _ => nin0)
  replace HN2 : OwnN Z h4 h2.size h3.size n2v (own_bit p0 (2 : Int32)) .null .null := HN2.keep K4 (fun _ _ => nin0)
  replace O0 := O0.keep K4 all0
  have Zs_4 : n0 ≤ _ := Nat.le_trans Zs_3 K4.1
  have hr_n3v := HN3.isRef
  have szK4 := K4.1
  refine own_via st4 ?_
  show OwnEnds p.tables e below _ (T4.setTop (mkF m 28 #[.val (.int p0), .val (.int p1), .val n0v, .val n1v, .val n2v, .unset, .unset, .unset, .unset, .unset, .unset, .unset, .unset, .unset, .unset, .unset, .unset] [n3v]))
  refine own_via (fun t k => XS.astore X4.here hx rfl (hb hby at_28) rfl hr_n3v (l' := #[.val (.int p0), .val (.int p1), .val n0v, .val n1v, .val n2v, .val n3v, .unset, .unset, .unset, .unset, .unset, .unset, .unset, .unset, .unset, .unset, .unset]) (XS.store1 rfl (Or.inl rfl) (own_cat hr_n3v)) k) ?_
  show OwnEnds p.tables e below _ (T4.setTop (mkF m 30 #[.val (.int p0), .val (.int p1), .val n0v, .val n1v, .val n2v, .val n3v, .unset, .unset, .unset, .unset, .unset, .unset, .unset, .unset, .unset, .unset, .unset] []))
  refine own_via (fun t k => XS.iloadN X4.here hx rfl (hb hby at_30) rfl k) ?_
  show OwnEnds p.tables e below _ (T4.setTop (mkF m 31 #[.val (.int p0), .val (.int p1), .val n0v, .val n1v, .val n2v, .val n3v, .unset, .unset, .unset, .unset, .unset, .unset, .unset, .unset, .unset, .unset, .unset] [(.int p0)]))
  refine own_via (fun t k => XS.iconst X4.here hx rfl (hb hby at_31) k) ?_
  show OwnEnds p.tables e below _ (T4.setTop (mkF m 32 #[.val (.int p0), .val (.int p1), .val n0v, .val n1v, .val n2v, .val n3v, .unset, .unset, .unset, .unset, .unset, .unset, .unset, .unset, .unset, .unset, .unset] [(.int (4 : Int32)), (.int p0)]))
  refine own_via (fun t k => XS.iloadN X4.here hx rfl (hb hby at_32) rfl k) ?_
  show OwnEnds p.tables e below _ (T4.setTop (mkF m 33 #[.val (.int p0), .val (.int p1), .val n0v, .val n1v, .val n2v, .val n3v, .unset, .unset, .unset, .unset, .unset, .unset, .unset, .unset, .unset, .unset, .unset] [(.int p1), (.int (4 : Int32)), (.int p0)]))
  obtain ⟨_, _, ⟨T5, L5, k5, n5⟩, -, X5, ⟨Lc5, hQ5, l5, y5, z5⟩, st5⟩ := Jvm.LawKit.callS X4 hx (y := (⟨"com/example/rowan/rowan/NodeCountPinLaw", "mk", "(III)Lcom/example/rowan/rowan/Node;"⟩ : MethodName)) hown (mvT hZ (hw _ (List.mem_of_getElem? (i := 0) rfl))) (mvT hZ (hw _ (List.mem_of_getElem? (i := 1) rfl))) (mvT hZ (hw _ (List.mem_of_getElem? (i := 2) rfl))) (mvT hZ (hw _ (List.mem_of_getElem? (i := 3) rfl))) (by decide) (backOf (W := 0) (rm1 l Z aw hw [] p0 (4 : Int32) p1 ca cx h4 n0 Zs_4 S_high S_cache A_ca hcl hcr O0) hZ (hw _ (List.mem_of_getElem? (i := 3) rfl)) (hw _ (List.mem_of_getElem? (i := 2) rfl)) (by decide) (by decide)) (g := (mkF m 33 #[.val (.int p0), .val (.int p1), .val n0v, .val n1v, .val n2v, .val n3v, .unset, .unset, .unset, .unset, .unset, .unset, .unset, .unset, .unset, .unset, .unset] [(.int p1), (.int (4 : Int32)), (.int p0)])) rfl (by rw [hml]; rfl) (argsL := [(.int p0), (.int (4 : Int32)), (.int p1)]) (rest := []) (lenOf pd_6 rfl) rfl (by show 2 * 0 + _ ≤ _; exact Nat.le_of_eq rfl) (hb hby at_33) (fun _ _ => ⟨rfl, e4, (by decide : 12 + 3 ≤ _), (by decide : 36 + 9 ≤ _)⟩)
  dsimp only [Pt.U, Pt.locs, Pt.cells, Pt.slots] at X5 l5 y5 z5 st5 hQ5
  subst l5 y5 z5
  obtain ⟨h5, e5⟩ : ∃ z, T5.heap = z := ⟨_, rfl⟩
  rw [e5] at hQ5
  obtain ⟨n4v, rfl, Nq5, K5, HN4⟩ := hQ5
  have N5 := Fr.app N4 Nq5
  replace HN0 : OwnN Z h5 h0.size h1.size n0v (own_bit p0 (0 : Int32)) .null .null := HN0.keep K5 (fun _ _ => nin0)
  replace HN1 : OwnN Z h5 h1.size h2.size n1v (own_bit p0 (1 : Int32)) .null .null := HN1.keep K5 (fun _ _ => nin0)
  replace HN2 : OwnN Z h5 h2.size h3.size n2v (own_bit p0 (2 : Int32)) .null .null := HN2.keep K5 (fun _ _ => nin0)
  replace HN3 : OwnN Z h5 h3.size h4.size n3v (own_bit p0 (3 : Int32)) .null .null := HN3.keep K5 (fun _ _ => nin0)
  replace O0 := O0.keep K5 all0
  have Zs_5 : n0 ≤ _ := Nat.le_trans Zs_4 K5.1
  have hr_n4v := HN4.isRef
  have szK5 := K5.1
  refine own_via st5 ?_
  show OwnEnds p.tables e below _ (T5.setTop (mkF m 36 #[.val (.int p0), .val (.int p1), .val n0v, .val n1v, .val n2v, .val n3v, .unset, .unset, .unset, .unset, .unset, .unset, .unset, .unset, .unset, .unset, .unset] [n4v]))
  refine own_via (fun t k => XS.astore X5.here hx rfl (hb hby at_36) rfl hr_n4v (l' := #[.val (.int p0), .val (.int p1), .val n0v, .val n1v, .val n2v, .val n3v, .val n4v, .unset, .unset, .unset, .unset, .unset, .unset, .unset, .unset, .unset, .unset]) (XS.store1 rfl (Or.inl rfl) (own_cat hr_n4v)) k) ?_
  show OwnEnds p.tables e below _ (T5.setTop (mkF m 38 #[.val (.int p0), .val (.int p1), .val n0v, .val n1v, .val n2v, .val n3v, .val n4v, .unset, .unset, .unset, .unset, .unset, .unset, .unset, .unset, .unset, .unset] []))
  refine own_via (fun t k => XS.iloadN X5.here hx rfl (hb hby at_38) rfl k) ?_
  show OwnEnds p.tables e below _ (T5.setTop (mkF m 39 #[.val (.int p0), .val (.int p1), .val n0v, .val n1v, .val n2v, .val n3v, .val n4v, .unset, .unset, .unset, .unset, .unset, .unset, .unset, .unset, .unset, .unset] [(.int p0)]))
  refine own_via (fun t k => XS.iconst X5.here hx rfl (hb hby at_39) k) ?_
  show OwnEnds p.tables e below _ (T5.setTop (mkF m 40 #[.val (.int p0), .val (.int p1), .val n0v, .val n1v, .val n2v, .val n3v, .val n4v, .unset, .unset, .unset, .unset, .unset, .unset, .unset, .unset, .unset, .unset] [(.int (5 : Int32)), (.int p0)]))
  refine own_via (fun t k => XS.iloadN X5.here hx rfl (hb hby at_40) rfl k) ?_
  show OwnEnds p.tables e below _ (T5.setTop (mkF m 41 #[.val (.int p0), .val (.int p1), .val n0v, .val n1v, .val n2v, .val n3v, .val n4v, .unset, .unset, .unset, .unset, .unset, .unset, .unset, .unset, .unset, .unset] [(.int p1), (.int (5 : Int32)), (.int p0)]))
  obtain ⟨_, _, ⟨T6, L6, k6, n6⟩, -, X6, ⟨Lc6, hQ6, l6, y6, z6⟩, st6⟩ := Jvm.LawKit.callS X5 hx (y := (⟨"com/example/rowan/rowan/NodeCountPinLaw", "mk", "(III)Lcom/example/rowan/rowan/Node;"⟩ : MethodName)) hown (mvT hZ (hw _ (List.mem_of_getElem? (i := 0) rfl))) (mvT hZ (hw _ (List.mem_of_getElem? (i := 1) rfl))) (mvT hZ (hw _ (List.mem_of_getElem? (i := 2) rfl))) (mvT hZ (hw _ (List.mem_of_getElem? (i := 3) rfl))) (by decide) (backOf (W := 0) (rm1 l Z aw hw [] p0 (5 : Int32) p1 ca cx h5 n0 Zs_5 S_high S_cache A_ca hcl hcr O0) hZ (hw _ (List.mem_of_getElem? (i := 3) rfl)) (hw _ (List.mem_of_getElem? (i := 2) rfl)) (by decide) (by decide)) (g := (mkF m 41 #[.val (.int p0), .val (.int p1), .val n0v, .val n1v, .val n2v, .val n3v, .val n4v, .unset, .unset, .unset, .unset, .unset, .unset, .unset, .unset, .unset, .unset] [(.int p1), (.int (5 : Int32)), (.int p0)])) rfl (by rw [hml]; rfl) (argsL := [(.int p0), (.int (5 : Int32)), (.int p1)]) (rest := []) (lenOf pd_6 rfl) rfl (by show 2 * 0 + _ ≤ _; exact Nat.le_of_eq rfl) (hb hby at_41) (fun _ _ => ⟨rfl, e5, (by decide : 15 + 3 ≤ _), (by decide : 45 + 9 ≤ _)⟩)
  dsimp only [Pt.U, Pt.locs, Pt.cells, Pt.slots] at X6 l6 y6 z6 st6 hQ6
  subst l6 y6 z6
  obtain ⟨h6, e6⟩ : ∃ z, T6.heap = z := ⟨_, rfl⟩
  rw [e6] at hQ6
  obtain ⟨n5v, rfl, Nq6, K6, HN5⟩ := hQ6
  have N6 := Fr.app N5 Nq6
  replace HN0 : OwnN Z h6 h0.size h1.size n0v (own_bit p0 (0 : Int32)) .null .null := HN0.keep K6 (fun _ _ => nin0)
  replace HN1 : OwnN Z h6 h1.size h2.size n1v (own_bit p0 (1 : Int32)) .null .null := HN1.keep K6 (fun _ _ => nin0)
  replace HN2 : OwnN Z h6 h2.size h3.size n2v (own_bit p0 (2 : Int32)) .null .null := HN2.keep K6 (fun _ _ => nin0)
  replace HN3 : OwnN Z h6 h3.size h4.size n3v (own_bit p0 (3 : Int32)) .null .null := HN3.keep K6 (fun _ _ => nin0)
  replace HN4 : OwnN Z h6 h4.size h5.size n4v (own_bit p0 (4 : Int32)) .null .null := HN4.keep K6 (fun _ _ => nin0)
  replace O0 := O0.keep K6 all0
  have Zs_6 : n0 ≤ _ := Nat.le_trans Zs_5 K6.1
  have hr_n5v := HN5.isRef
  have szK6 := K6.1
  refine own_via st6 ?_
  show OwnEnds p.tables e below _ (T6.setTop (mkF m 44 #[.val (.int p0), .val (.int p1), .val n0v, .val n1v, .val n2v, .val n3v, .val n4v, .unset, .unset, .unset, .unset, .unset, .unset, .unset, .unset, .unset, .unset] [n5v]))
  refine own_via (fun t k => XS.astore X6.here hx rfl (hb hby at_44) rfl hr_n5v (l' := #[.val (.int p0), .val (.int p1), .val n0v, .val n1v, .val n2v, .val n3v, .val n4v, .val n5v, .unset, .unset, .unset, .unset, .unset, .unset, .unset, .unset, .unset]) (XS.store1 rfl (Or.inl rfl) (own_cat hr_n5v)) k) ?_
  show OwnEnds p.tables e below _ (T6.setTop (mkF m 46 #[.val (.int p0), .val (.int p1), .val n0v, .val n1v, .val n2v, .val n3v, .val n4v, .val n5v, .unset, .unset, .unset, .unset, .unset, .unset, .unset, .unset, .unset] []))
  refine own_via (fun t k => XS.iloadN X6.here hx rfl (hb hby at_46) rfl k) ?_
  show OwnEnds p.tables e below _ (T6.setTop (mkF m 47 #[.val (.int p0), .val (.int p1), .val n0v, .val n1v, .val n2v, .val n3v, .val n4v, .val n5v, .unset, .unset, .unset, .unset, .unset, .unset, .unset, .unset, .unset] [(.int p0)]))
  refine own_via (fun t k => XS.bipush X6.here hx rfl (hb hby at_47) k) ?_
  show OwnEnds p.tables e below _ (T6.setTop (mkF m 49 #[.val (.int p0), .val (.int p1), .val n0v, .val n1v, .val n2v, .val n3v, .val n4v, .val n5v, .unset, .unset, .unset, .unset, .unset, .unset, .unset, .unset, .unset] [(.int (6 : Int32)), (.int p0)]))
  refine own_via (fun t k => XS.iloadN X6.here hx rfl (hb hby at_49) rfl k) ?_
  show OwnEnds p.tables e below _ (T6.setTop (mkF m 50 #[.val (.int p0), .val (.int p1), .val n0v, .val n1v, .val n2v, .val n3v, .val n4v, .val n5v, .unset, .unset, .unset, .unset, .unset, .unset, .unset, .unset, .unset] [(.int p1), (.int (6 : Int32)), (.int p0)]))
  obtain ⟨_, _, ⟨T7, L7, k7, n7⟩, -, X7, ⟨Lc7, hQ7, l7, y7, z7⟩, st7⟩ := Jvm.LawKit.callS X6 hx (y := (⟨"com/example/rowan/rowan/NodeCountPinLaw", "mk", "(III)Lcom/example/rowan/rowan/Node;"⟩ : MethodName)) hown (mvT hZ (hw _ (List.mem_of_getElem? (i := 0) rfl))) (mvT hZ (hw _ (List.mem_of_getElem? (i := 1) rfl))) (mvT hZ (hw _ (List.mem_of_getElem? (i := 2) rfl))) (mvT hZ (hw _ (List.mem_of_getElem? (i := 3) rfl))) (by decide) (backOf (W := 0) (rm1 l Z aw hw [] p0 (6 : Int32) p1 ca cx h6 n0 Zs_6 S_high S_cache A_ca hcl hcr O0) hZ (hw _ (List.mem_of_getElem? (i := 3) rfl)) (hw _ (List.mem_of_getElem? (i := 2) rfl)) (by decide) (by decide)) (g := (mkF m 50 #[.val (.int p0), .val (.int p1), .val n0v, .val n1v, .val n2v, .val n3v, .val n4v, .val n5v, .unset, .unset, .unset, .unset, .unset, .unset, .unset, .unset, .unset] [(.int p1), (.int (6 : Int32)), (.int p0)])) rfl (by rw [hml]; rfl) (argsL := [(.int p0), (.int (6 : Int32)), (.int p1)]) (rest := []) (lenOf pd_6 rfl) rfl (by show 2 * 0 + _ ≤ _; exact Nat.le_of_eq rfl) (hb hby at_50) (fun _ _ => ⟨rfl, e6, (by decide : 18 + 3 ≤ _), (by decide : 54 + 9 ≤ _)⟩)
  dsimp only [Pt.U, Pt.locs, Pt.cells, Pt.slots] at X7 l7 y7 z7 st7 hQ7
  subst l7 y7 z7
  obtain ⟨h7, e7⟩ : ∃ z, T7.heap = z := ⟨_, rfl⟩
  rw [e7] at hQ7
  obtain ⟨n6v, rfl, Nq7, K7, HN6⟩ := hQ7
  have N7 := Fr.app N6 Nq7
  replace HN0 : OwnN Z h7 h0.size h1.size n0v (own_bit p0 (0 : Int32)) .null .null := HN0.keep K7 (fun _ _ => nin0)
  replace HN1 : OwnN Z h7 h1.size h2.size n1v (own_bit p0 (1 : Int32)) .null .null := HN1.keep K7 (fun _ _ => nin0)
  replace HN2 : OwnN Z h7 h2.size h3.size n2v (own_bit p0 (2 : Int32)) .null .null := HN2.keep K7 (fun _ _ => nin0)
  replace HN3 : OwnN Z h7 h3.size h4.size n3v (own_bit p0 (3 : Int32)) .null .null := HN3.keep K7 (fun _ _ => nin0)
  replace HN4 : OwnN Z h7 h4.size h5.size n4v (own_bit p0 (4 : Int32)) .null .null := HN4.keep K7 (fun _ _ => nin0)
  replace HN5 : OwnN Z h7 h5.size h6.size n5v (own_bit p0 (5 : Int32)) .null .null := HN5.keep K7 (fun _ _ => nin0)
  replace O0 := O0.keep K7 all0
  have Zs_7 : n0 ≤ _ := Nat.le_trans Zs_6 K7.1
  have hr_n6v := HN6.isRef
  have szK7 := K7.1
  refine own_via st7 ?_
  show OwnEnds p.tables e below _ (T7.setTop (mkF m 53 #[.val (.int p0), .val (.int p1), .val n0v, .val n1v, .val n2v, .val n3v, .val n4v, .val n5v, .unset, .unset, .unset, .unset, .unset, .unset, .unset, .unset, .unset] [n6v]))
  refine own_via (fun t k => XS.astore X7.here hx rfl (hb hby at_53) rfl hr_n6v (l' := #[.val (.int p0), .val (.int p1), .val n0v, .val n1v, .val n2v, .val n3v, .val n4v, .val n5v, .val n6v, .unset, .unset, .unset, .unset, .unset, .unset, .unset, .unset]) (XS.store1 rfl (Or.inl rfl) (own_cat hr_n6v)) k) ?_
  show OwnEnds p.tables e below _ (T7.setTop (mkF m 55 #[.val (.int p0), .val (.int p1), .val n0v, .val n1v, .val n2v, .val n3v, .val n4v, .val n5v, .val n6v, .unset, .unset, .unset, .unset, .unset, .unset, .unset, .unset] []))
  refine own_via (fun t k => XS.aloadN X7.here hx rfl (hb hby at_55) rfl hr_n1v k) ?_
  show OwnEnds p.tables e below _ (T7.setTop (mkF m 56 #[.val (.int p0), .val (.int p1), .val n0v, .val n1v, .val n2v, .val n3v, .val n4v, .val n5v, .val n6v, .unset, .unset, .unset, .unset, .unset, .unset, .unset, .unset] [n1v]))
  refine own_via (fun t k => XS.aload X7.here hx rfl (hb hby at_56) rfl hr_n3v k) ?_
  show OwnEnds p.tables e below _ (T7.setTop (mkF m 58 #[.val (.int p0), .val (.int p1), .val n0v, .val n1v, .val n2v, .val n3v, .val n4v, .val n5v, .val n6v, .unset, .unset, .unset, .unset, .unset, .unset, .unset, .unset] [n3v, n1v]))
  refine own_via (fun t k => XS.aload X7.here hx rfl (hb hby at_58) rfl hr_n4v k) ?_
  show OwnEnds p.tables e below _ (T7.setTop (mkF m 60 #[.val (.int p0), .val (.int p1), .val n0v, .val n1v, .val n2v, .val n3v, .val n4v, .val n5v, .val n6v, .unset, .unset, .unset, .unset, .unset, .unset, .unset, .unset] [n4v, n3v, n1v]))
  obtain ⟨_, _, ⟨T8, L8, k8, n8⟩, -, X8, ⟨Lc8, hQ8, l8, y8, z8⟩, st8⟩ := Jvm.LawKit.callS X7 hx (y := (⟨"com/example/rowan/rowan/NodeCountPinLaw", "link", "(Lcom/example/rowan/rowan/Node;Lcom/example/rowan/rowan/Node;Lcom/example/rowan/rowan/Node;)V"⟩ : MethodName)) hown (mvT hZ (hw _ (List.mem_of_getElem? (i := 7) rfl))) (mvT hZ (hw _ (List.mem_of_getElem? (i := 8) rfl))) (mvT hZ (hw _ (List.mem_of_getElem? (i := 2) rfl))) (mvT hZ (hw _ (List.mem_of_getElem? (i := 9) rfl))) (by decide) (backOf (W := 0) (rm3 l Z aw hw [] n1v n3v n4v h1.size h2.size (own_bit p0 (1 : Int32)) h7 n0 Zs_7 HN1 hr_n3v hr_n4v (by omega)) hZ (hw _ (List.mem_of_getElem? (i := 9) rfl)) (hw _ (List.mem_of_getElem? (i := 2) rfl)) (by decide) (by decide)) (g := (mkF m 60 #[.val (.int p0), .val (.int p1), .val n0v, .val n1v, .val n2v, .val n3v, .val n4v, .val n5v, .val n6v, .unset, .unset, .unset, .unset, .unset, .unset, .unset, .unset] [n4v, n3v, n1v])) rfl (by rw [hml]; rfl) (argsL := [n1v, n3v, n4v]) (rest := []) (lenOf pd_7 rfl) rfl (by show 2 * 0 + _ ≤ _; exact Nat.le_of_eq rfl) (hb hby at_60) (fun _ _ => ⟨rfl, e7, (by decide : 21 + 0 ≤ _), (by decide : 63 + 0 ≤ _)⟩)
  dsimp only [Pt.U, Pt.locs, Pt.cells, Pt.slots] at X8 l8 y8 z8 st8 hQ8
  subst l8 y8 z8
  obtain ⟨h8, e8⟩ : ∃ z, T8.heap = z := ⟨_, rfl⟩
  rw [e8] at hQ8
  obtain ⟨rfl, Nq8, K8, HN1'⟩ := hQ8
  have N8 := Fr.app N7 Nq8
  replace HN0 : OwnN Z h8 h0.size h1.size n0v (own_bit p0 (0 : Int32)) .null .null := HN0.keep K8 (HN0.apart HN1 (by omega))
  replace HN2 : OwnN Z h8 h2.size h3.size n2v (own_bit p0 (2 : Int32)) .null .null := HN2.keep K8 (HN2.apart HN1 (by omega))
  replace HN3 : OwnN Z h8 h3.size h4.size n3v (own_bit p0 (3 : Int32)) .null .null := HN3.keep K8 (HN3.apart HN1 (by omega))
  replace HN4 : OwnN Z h8 h4.size h5.size n4v (own_bit p0 (4 : Int32)) .null .null := HN4.keep K8 (HN4.apart HN1 (by omega))
  replace HN5 : OwnN Z h8 h5.size h6.size n5v (own_bit p0 (5 : Int32)) .null .null := HN5.keep K8 (HN5.apart HN1 (by omega))
  replace HN6 : OwnN Z h8 h6.size h7.size n6v (own_bit p0 (6 : Int32)) .null .null := HN6.keep K8 (HN6.apart HN1 (by omega))
  replace O0 := O0.keep K8 (HN1.wsge (by omega))
  have Zs_8 : n0 ≤ _ := Nat.le_trans Zs_7 K8.1
  replace HN1 := HN1'
  refine own_via st8 ?_
  show OwnEnds p.tables e below _ (T8.setTop (mkF m 63 #[.val (.int p0), .val (.int p1), .val n0v, .val n1v, .val n2v, .val n3v, .val n4v, .val n5v, .val n6v, .unset, .unset, .unset, .unset, .unset, .unset, .unset, .unset] []))
  refine own_via (fun t k => XS.aload X8.here hx rfl (hb hby at_63) rfl hr_n2v k) ?_
  show OwnEnds p.tables e below _ (T8.setTop (mkF m 65 #[.val (.int p0), .val (.int p1), .val n0v, .val n1v, .val n2v, .val n3v, .val n4v, .val n5v, .val n6v, .unset, .unset, .unset, .unset, .unset, .unset, .unset, .unset] [n2v]))
  refine own_via (fun t k => XS.aload X8.here hx rfl (hb hby at_65) rfl hr_n5v k) ?_
  show OwnEnds p.tables e below _ (T8.setTop (mkF m 67 #[.val (.int p0), .val (.int p1), .val n0v, .val n1v, .val n2v, .val n3v, .val n4v, .val n5v, .val n6v, .unset, .unset, .unset, .unset, .unset, .unset, .unset, .unset] [n5v, n2v]))
  refine own_via (fun t k => XS.aload X8.here hx rfl (hb hby at_67) rfl hr_n6v k) ?_
  show OwnEnds p.tables e below _ (T8.setTop (mkF m 69 #[.val (.int p0), .val (.int p1), .val n0v, .val n1v, .val n2v, .val n3v, .val n4v, .val n5v, .val n6v, .unset, .unset, .unset, .unset, .unset, .unset, .unset, .unset] [n6v, n5v, n2v]))
  obtain ⟨_, _, ⟨T9, L9, k9, n9⟩, -, X9, ⟨Lc9, hQ9, l9, y9, z9⟩, st9⟩ := Jvm.LawKit.callS X8 hx (y := (⟨"com/example/rowan/rowan/NodeCountPinLaw", "link", "(Lcom/example/rowan/rowan/Node;Lcom/example/rowan/rowan/Node;Lcom/example/rowan/rowan/Node;)V"⟩ : MethodName)) hown (mvT hZ (hw _ (List.mem_of_getElem? (i := 7) rfl))) (mvT hZ (hw _ (List.mem_of_getElem? (i := 8) rfl))) (mvT hZ (hw _ (List.mem_of_getElem? (i := 2) rfl))) (mvT hZ (hw _ (List.mem_of_getElem? (i := 9) rfl))) (by decide) (backOf (W := 0) (rm3 l Z aw hw [] n2v n5v n6v h2.size h3.size (own_bit p0 (2 : Int32)) h8 n0 Zs_8 HN2 hr_n5v hr_n6v (by omega)) hZ (hw _ (List.mem_of_getElem? (i := 9) rfl)) (hw _ (List.mem_of_getElem? (i := 2) rfl)) (by decide) (by decide)) (g := (mkF m 69 #[.val (.int p0), .val (.int p1), .val n0v, .val n1v, .val n2v, .val n3v, .val n4v, .val n5v, .val n6v, .unset, .unset, .unset, .unset, .unset, .unset, .unset, .unset] [n6v, n5v, n2v])) rfl (by rw [hml]; rfl) (argsL := [n2v, n5v, n6v]) (rest := []) (lenOf pd_7 rfl) rfl (by show 2 * 0 + _ ≤ _; exact Nat.le_of_eq rfl) (hb hby at_69) (fun _ _ => ⟨rfl, e8, (by decide : 21 + 0 ≤ _), (by decide : 63 + 0 ≤ _)⟩)
  dsimp only [Pt.U, Pt.locs, Pt.cells, Pt.slots] at X9 l9 y9 z9 st9 hQ9
  subst l9 y9 z9
  obtain ⟨h9, e9⟩ : ∃ z, T9.heap = z := ⟨_, rfl⟩
  rw [e9] at hQ9
  obtain ⟨rfl, Nq9, K9, HN2'⟩ := hQ9
  have N9 := Fr.app N8 Nq9
  replace HN0 : OwnN Z h9 h0.size h1.size n0v (own_bit p0 (0 : Int32)) .null .null := HN0.keep K9 (HN0.apart HN2 (by omega))
  replace HN3 : OwnN Z h9 h3.size h4.size n3v (own_bit p0 (3 : Int32)) .null .null := HN3.keep K9 (HN3.apart HN2 (by omega))
  replace HN4 : OwnN Z h9 h4.size h5.size n4v (own_bit p0 (4 : Int32)) .null .null := HN4.keep K9 (HN4.apart HN2 (by omega))
  replace HN5 : OwnN Z h9 h5.size h6.size n5v (own_bit p0 (5 : Int32)) .null .null := HN5.keep K9 (HN5.apart HN2 (by omega))
  replace HN6 : OwnN Z h9 h6.size h7.size n6v (own_bit p0 (6 : Int32)) .null .null := HN6.keep K9 (HN6.apart HN2 (by omega))
  replace HN1 : OwnN Z h9 h1.size h2.size n1v (own_bit p0 (1 : Int32)) n3v n4v := HN1.keep K9 (HN1.apart HN2 (by omega))
  replace O0 := O0.keep K9 (HN2.wsge (by omega))
  have Zs_9 : n0 ≤ _ := Nat.le_trans Zs_8 K9.1
  replace HN2 := HN2'
  refine own_via st9 ?_
  show OwnEnds p.tables e below _ (T9.setTop (mkF m 72 #[.val (.int p0), .val (.int p1), .val n0v, .val n1v, .val n2v, .val n3v, .val n4v, .val n5v, .val n6v, .unset, .unset, .unset, .unset, .unset, .unset, .unset, .unset] []))
  refine own_via (fun t k => XS.aloadN X9.here hx rfl (hb hby at_72) rfl hr_n0v k) ?_
  show OwnEnds p.tables e below _ (T9.setTop (mkF m 73 #[.val (.int p0), .val (.int p1), .val n0v, .val n1v, .val n2v, .val n3v, .val n4v, .val n5v, .val n6v, .unset, .unset, .unset, .unset, .unset, .unset, .unset, .unset] [n0v]))
  refine own_via (fun t k => XS.aloadN X9.here hx rfl (hb hby at_73) rfl hr_n1v k) ?_
  show OwnEnds p.tables e below _ (T9.setTop (mkF m 74 #[.val (.int p0), .val (.int p1), .val n0v, .val n1v, .val n2v, .val n3v, .val n4v, .val n5v, .val n6v, .unset, .unset, .unset, .unset, .unset, .unset, .unset, .unset] [n1v, n0v]))
  refine own_via (fun t k => XS.aload X9.here hx rfl (hb hby at_74) rfl hr_n2v k) ?_
  show OwnEnds p.tables e below _ (T9.setTop (mkF m 76 #[.val (.int p0), .val (.int p1), .val n0v, .val n1v, .val n2v, .val n3v, .val n4v, .val n5v, .val n6v, .unset, .unset, .unset, .unset, .unset, .unset, .unset, .unset] [n2v, n1v, n0v]))
  obtain ⟨_, _, ⟨T10, L10, k10, n10⟩, -, X10, ⟨Lc10, hQ10, l10, y10, z10⟩, st10⟩ := Jvm.LawKit.callS X9 hx (y := (⟨"com/example/rowan/rowan/NodeCountPinLaw", "link", "(Lcom/example/rowan/rowan/Node;Lcom/example/rowan/rowan/Node;Lcom/example/rowan/rowan/Node;)V"⟩ : MethodName)) hown (mvT hZ (hw _ (List.mem_of_getElem? (i := 7) rfl))) (mvT hZ (hw _ (List.mem_of_getElem? (i := 8) rfl))) (mvT hZ (hw _ (List.mem_of_getElem? (i := 2) rfl))) (mvT hZ (hw _ (List.mem_of_getElem? (i := 9) rfl))) (by decide) (backOf (W := 0) (rm3 l Z aw hw [] n0v n1v n2v h0.size h1.size (own_bit p0 (0 : Int32)) h9 n0 Zs_9 HN0 hr_n1v hr_n2v (by omega)) hZ (hw _ (List.mem_of_getElem? (i := 9) rfl)) (hw _ (List.mem_of_getElem? (i := 2) rfl)) (by decide) (by decide)) (g := (mkF m 76 #[.val (.int p0), .val (.int p1), .val n0v, .val n1v, .val n2v, .val n3v, .val n4v, .val n5v, .val n6v, .unset, .unset, .unset, .unset, .unset, .unset, .unset, .unset] [n2v, n1v, n0v])) rfl (by rw [hml]; rfl) (argsL := [n0v, n1v, n2v]) (rest := []) (lenOf pd_7 rfl) rfl (by show 2 * 0 + _ ≤ _; exact Nat.le_of_eq rfl) (hb hby at_76) (fun _ _ => ⟨rfl, e9, (by decide : 21 + 0 ≤ _), (by decide : 63 + 0 ≤ _)⟩)
  dsimp only [Pt.U, Pt.locs, Pt.cells, Pt.slots] at X10 l10 y10 z10 st10 hQ10
  subst l10 y10 z10
  obtain ⟨h10, e10⟩ : ∃ z, T10.heap = z := ⟨_, rfl⟩
  rw [e10] at hQ10
  obtain ⟨rfl, Nq10, K10, HN0'⟩ := hQ10
  have N10 := Fr.app N9 Nq10
  replace HN3 : OwnN Z h10 h3.size h4.size n3v (own_bit p0 (3 : Int32)) .null .null := HN3.keep K10 (HN3.apart HN0 (by omega))
  replace HN4 : OwnN Z h10 h4.size h5.size n4v (own_bit p0 (4 : Int32)) .null .null := HN4.keep K10 (HN4.apart HN0 (by omega))
  replace HN5 : OwnN Z h10 h5.size h6.size n5v (own_bit p0 (5 : Int32)) .null .null := HN5.keep K10 (HN5.apart HN0 (by omega))
  replace HN6 : OwnN Z h10 h6.size h7.size n6v (own_bit p0 (6 : Int32)) .null .null := HN6.keep K10 (HN6.apart HN0 (by omega))
  replace HN1 : OwnN Z h10 h1.size h2.size n1v (own_bit p0 (1 : Int32)) n3v n4v := HN1.keep K10 (HN1.apart HN0 (by omega))
  replace HN2 : OwnN Z h10 h2.size h3.size n2v (own_bit p0 (2 : Int32)) n5v n6v := HN2.keep K10 (HN2.apart HN0 (by omega))
  replace O0 := O0.keep K10 (HN0.wsge (by omega))
  have Zs_10 : n0 ≤ _ := Nat.le_trans Zs_9 K10.1
  replace HN0 := HN0'
  refine own_via st10 ?_
  show OwnEnds p.tables e below _ (T10.setTop (mkF m 79 #[.val (.int p0), .val (.int p1), .val n0v, .val n1v, .val n2v, .val n3v, .val n4v, .val n5v, .val n6v, .unset, .unset, .unset, .unset, .unset, .unset, .unset, .unset] []))
  have HT := HN0.tree (HN1.tree (HN3.tree own_t0 own_t0) (HN4.tree own_t0 own_t0)) (HN2.tree (HN5.tree own_t0 own_t0) (HN6.tree own_t0 own_t0))
  refine own_via (fun t k => XS.iloadN X10.here hx rfl (hb hby at_79) rfl k) ?_
  show OwnEnds p.tables e below _ (T10.setTop (mkF m 80 #[.val (.int p0), .val (.int p1), .val n0v, .val n1v, .val n2v, .val n3v, .val n4v, .val n5v, .val n6v, .unset, .unset, .unset, .unset, .unset, .unset, .unset, .unset] [(.int p0)]))
  refine own_via (fun t k => XS.iconst X10.here hx rfl (hb hby at_80) k) ?_
  show OwnEnds p.tables e below _ (T10.setTop (mkF m 81 #[.val (.int p0), .val (.int p1), .val n0v, .val n1v, .val n2v, .val n3v, .val n4v, .val n5v, .val n6v, .unset, .unset, .unset, .unset, .unset, .unset, .unset, .unset] [(.int (0 : Int32)), (.int p0)]))
  obtain ⟨_, _, ⟨T11, L11, k11, n11⟩, -, X11, ⟨Lc11, hQ11, l11, y11, z11⟩, st11⟩ := Jvm.LawKit.callS X10 hx (y := (⟨"com/example/rowan/rowan/NodeCountPinLaw", "bit", "(II)Z"⟩ : MethodName)) hown (mvT hZ (hw _ (List.mem_of_getElem? (i := 4) rfl))) (mvT hZ (hw _ (List.mem_of_getElem? (i := 5) rfl))) (mvT hZ (hw _ (List.mem_of_getElem? (i := 2) rfl))) (mvT hZ (hw _ (List.mem_of_getElem? (i := 6) rfl))) (by decide) (backOf (W := 0) (rm2 l Z aw hw [] p0 (0 : Int32) h10 n0 Zs_10 ) hZ (hw _ (List.mem_of_getElem? (i := 6) rfl)) (hw _ (List.mem_of_getElem? (i := 2) rfl)) (by decide) (by decide)) (g := (mkF m 81 #[.val (.int p0), .val (.int p1), .val n0v, .val n1v, .val n2v, .val n3v, .val n4v, .val n5v, .val n6v, .unset, .unset, .unset, .unset, .unset, .unset, .unset, .unset] [(.int (0 : Int32)), (.int p0)])) rfl (by rw [hml]; rfl) (argsL := [(.int p0), (.int (0 : Int32))]) (rest := []) (lenOf pd_2 rfl) rfl (by show 2 * 0 + _ ≤ _; exact Nat.le_of_eq rfl) (hb hby at_81) (fun _ _ => ⟨rfl, e10, (by decide : 21 + 0 ≤ _), (by decide : 63 + 0 ≤ _)⟩)
  dsimp only [Pt.U, Pt.locs, Pt.cells, Pt.slots] at X11 l11 y11 z11 st11 hQ11
  subst l11 y11 z11
  obtain ⟨rfl, Nq11, e11⟩ := hQ11
  have N11 := Fr.app N10 Nq11
  replace e11 : T11.heap = h10 := e11
  refine own_via st11 ?_
  show OwnEnds p.tables e below _ (T11.setTop (mkF m 84 #[.val (.int p0), .val (.int p1), .val n0v, .val n1v, .val n2v, .val n3v, .val n4v, .val n5v, .val n6v, .unset, .unset, .unset, .unset, .unset, .unset, .unset, .unset] [(.int (own_bit p0 (0 : Int32)))]))
  refine own_via (fun t k => XS.istore X11.here hx rfl (hb hby at_84) rfl (l' := #[.val (.int p0), .val (.int p1), .val n0v, .val n1v, .val n2v, .val n3v, .val n4v, .val n5v, .val n6v, .val (.int (own_bit p0 (0 : Int32))), .unset, .unset, .unset, .unset, .unset, .unset, .unset]) rfl k) ?_
  show OwnEnds p.tables e below _ (T11.setTop (mkF m 86 #[.val (.int p0), .val (.int p1), .val n0v, .val n1v, .val n2v, .val n3v, .val n4v, .val n5v, .val n6v, .val (.int (own_bit p0 (0 : Int32))), .unset, .unset, .unset, .unset, .unset, .unset, .unset] []))
  refine own_via (fun t k => XS.iload X11.here hx rfl (hb hby at_86) rfl k) ?_
  show OwnEnds p.tables e below _ (T11.setTop (mkF m 88 #[.val (.int p0), .val (.int p1), .val n0v, .val n1v, .val n2v, .val n3v, .val n4v, .val n5v, .val n6v, .val (.int (own_bit p0 (0 : Int32))), .unset, .unset, .unset, .unset, .unset, .unset, .unset] [(.int (own_bit p0 (0 : Int32)))]))
  have J104_12 : ∀ (TJ104_12 : State) (locsJ104_12 : List Loc), ∀ x1 : Int32, Stand p l e room_1 s m #[(.int p0), (.int p1)] below meth c TJ104_12 locsJ104_12 21 63 → TJ104_12.heap = h10 → Fr n0 locsJ104_12 → x1 = (if (own_bit p0 (0 : Int32)) = (0 : Int32) then (0 : Int32) else (if (own_bit p0 (1 : Int32)) = (0 : Int32) then (0 : Int32) else (1 : Int32))) → OwnEnds p.tables e below (OwnQ s 56 192 (Q0 Z p0 p1 ca cx h0 n0)) (TJ104_12.setTop (mkF m 104 #[.val (.int p0), .val (.int p1), .val n0v, .val n1v, .val n2v, .val n3v, .val n4v, .val n5v, .val n6v, .val (.int (own_bit p0 (0 : Int32))), .unset, .unset, .unset, .unset, .unset, .unset, .unset] [(.int x1)])) := by
    intro TJ104_12 locsJ104_12 x1 XJ104_12 eJ104_12 NJ104_12 h_x1
    refine own_via (fun t k => XS.istore XJ104_12.here hx rfl (hb hby at_104) rfl (l' := #[.val (.int p0), .val (.int p1), .val n0v, .val n1v, .val n2v, .val n3v, .val n4v, .val n5v, .val n6v, .val (.int (own_bit p0 (0 : Int32))), .val (.int x1), .unset, .unset, .unset, .unset, .unset, .unset]) rfl k) ?_
    show OwnEnds p.tables e below _ (TJ104_12.setTop (mkF m 106 #[.val (.int p0), .val (.int p1), .val n0v, .val n1v, .val n2v, .val n3v, .val n4v, .val n5v, .val n6v, .val (.int (own_bit p0 (0 : Int32))), .val (.int x1), .unset, .unset, .unset, .unset, .unset, .unset] []))
    refine own_via (fun t k => XS.iload XJ104_12.here hx rfl (hb hby at_106) rfl k) ?_
    show OwnEnds p.tables e below _ (TJ104_12.setTop (mkF m 108 #[.val (.int p0), .val (.int p1), .val n0v, .val n1v, .val n2v, .val n3v, .val n4v, .val n5v, .val n6v, .val (.int (own_bit p0 (0 : Int32))), .val (.int x1), .unset, .unset, .unset, .unset, .unset, .unset] [(.int (own_bit p0 (0 : Int32)))]))
    have J124_13 : ∀ (TJ124_13 : State) (locsJ124_13 : List Loc), ∀ x2 : Int32, Stand p l e room_1 s m #[(.int p0), (.int p1)] below meth c TJ124_13 locsJ124_13 21 63 → TJ124_13.heap = h10 → Fr n0 locsJ124_13 → x2 = (if (own_bit p0 (0 : Int32)) = (0 : Int32) then (0 : Int32) else (if (own_bit p0 (2 : Int32)) = (0 : Int32) then (0 : Int32) else (1 : Int32))) → OwnEnds p.tables e below (OwnQ s 56 192 (Q0 Z p0 p1 ca cx h0 n0)) (TJ124_13.setTop (mkF m 124 #[.val (.int p0), .val (.int p1), .val n0v, .val n1v, .val n2v, .val n3v, .val n4v, .val n5v, .val n6v, .val (.int (own_bit p0 (0 : Int32))), .val (.int x1), .unset, .unset, .unset, .unset, .unset, .unset] [(.int x2)])) := by
      intro TJ124_13 locsJ124_13 x2 XJ124_13 eJ124_13 NJ124_13 h_x2
      refine own_via (fun t k => XS.istore XJ124_13.here hx rfl (hb hby at_124) rfl (l' := #[.val (.int p0), .val (.int p1), .val n0v, .val n1v, .val n2v, .val n3v, .val n4v, .val n5v, .val n6v, .val (.int (own_bit p0 (0 : Int32))), .val (.int x1), .val (.int x2), .unset, .unset, .unset, .unset, .unset]) rfl k) ?_
      show OwnEnds p.tables e below _ (TJ124_13.setTop (mkF m 126 #[.val (.int p0), .val (.int p1), .val n0v, .val n1v, .val n2v, .val n3v, .val n4v, .val n5v, .val n6v, .val (.int (own_bit p0 (0 : Int32))), .val (.int x1), .val (.int x2), .unset, .unset, .unset, .unset, .unset] []))
      refine own_via (fun t k => XS.iload XJ124_13.here hx rfl (hb hby at_126) rfl k) ?_
      show OwnEnds p.tables e below _ (TJ124_13.setTop (mkF m 128 #[.val (.int p0), .val (.int p1), .val n0v, .val n1v, .val n2v, .val n3v, .val n4v, .val n5v, .val n6v, .val (.int (own_bit p0 (0 : Int32))), .val (.int x1), .val (.int x2), .unset, .unset, .unset, .unset, .unset] [(.int x1)]))
      have J144_14 : ∀ (TJ144_14 : State) (locsJ144_14 : List Loc), ∀ x3 : Int32, Stand p l e room_1 s m #[(.int p0), (.int p1)] below meth c TJ144_14 locsJ144_14 21 63 → TJ144_14.heap = h10 → Fr n0 locsJ144_14 → x3 = (if x1 = (0 : Int32) then (0 : Int32) else (if (own_bit p0 (3 : Int32)) = (0 : Int32) then (0 : Int32) else (1 : Int32))) → OwnEnds p.tables e below (OwnQ s 56 192 (Q0 Z p0 p1 ca cx h0 n0)) (TJ144_14.setTop (mkF m 144 #[.val (.int p0), .val (.int p1), .val n0v, .val n1v, .val n2v, .val n3v, .val n4v, .val n5v, .val n6v, .val (.int (own_bit p0 (0 : Int32))), .val (.int x1), .val (.int x2), .unset, .unset, .unset, .unset, .unset] [(.int x3)])) := by
        intro TJ144_14 locsJ144_14 x3 XJ144_14 eJ144_14 NJ144_14 h_x3
        refine own_via (fun t k => XS.istore XJ144_14.here hx rfl (hb hby at_144) rfl (l' := #[.val (.int p0), .val (.int p1), .val n0v, .val n1v, .val n2v, .val n3v, .val n4v, .val n5v, .val n6v, .val (.int (own_bit p0 (0 : Int32))), .val (.int x1), .val (.int x2), .val (.int x3), .unset, .unset, .unset, .unset]) rfl k) ?_
        show OwnEnds p.tables e below _ (TJ144_14.setTop (mkF m 146 #[.val (.int p0), .val (.int p1), .val n0v, .val n1v, .val n2v, .val n3v, .val n4v, .val n5v, .val n6v, .val (.int (own_bit p0 (0 : Int32))), .val (.int x1), .val (.int x2), .val (.int x3), .unset, .unset, .unset, .unset] []))
        refine own_via (fun t k => XS.iload XJ144_14.here hx rfl (hb hby at_146) rfl k) ?_
        show OwnEnds p.tables e below _ (TJ144_14.setTop (mkF m 148 #[.val (.int p0), .val (.int p1), .val n0v, .val n1v, .val n2v, .val n3v, .val n4v, .val n5v, .val n6v, .val (.int (own_bit p0 (0 : Int32))), .val (.int x1), .val (.int x2), .val (.int x3), .unset, .unset, .unset, .unset] [(.int x1)]))
        have J164_15 : ∀ (TJ164_15 : State) (locsJ164_15 : List Loc), ∀ x4 : Int32, Stand p l e room_1 s m #[(.int p0), (.int p1)] below meth c TJ164_15 locsJ164_15 21 63 → TJ164_15.heap = h10 → Fr n0 locsJ164_15 → x4 = (if x1 = (0 : Int32) then (0 : Int32) else (if (own_bit p0 (4 : Int32)) = (0 : Int32) then (0 : Int32) else (1 : Int32))) → OwnEnds p.tables e below (OwnQ s 56 192 (Q0 Z p0 p1 ca cx h0 n0)) (TJ164_15.setTop (mkF m 164 #[.val (.int p0), .val (.int p1), .val n0v, .val n1v, .val n2v, .val n3v, .val n4v, .val n5v, .val n6v, .val (.int (own_bit p0 (0 : Int32))), .val (.int x1), .val (.int x2), .val (.int x3), .unset, .unset, .unset, .unset] [(.int x4)])) := by
          intro TJ164_15 locsJ164_15 x4 XJ164_15 eJ164_15 NJ164_15 h_x4
          refine own_via (fun t k => XS.istore XJ164_15.here hx rfl (hb hby at_164) rfl (l' := #[.val (.int p0), .val (.int p1), .val n0v, .val n1v, .val n2v, .val n3v, .val n4v, .val n5v, .val n6v, .val (.int (own_bit p0 (0 : Int32))), .val (.int x1), .val (.int x2), .val (.int x3), .val (.int x4), .unset, .unset, .unset]) rfl k) ?_
          show OwnEnds p.tables e below _ (TJ164_15.setTop (mkF m 166 #[.val (.int p0), .val (.int p1), .val n0v, .val n1v, .val n2v, .val n3v, .val n4v, .val n5v, .val n6v, .val (.int (own_bit p0 (0 : Int32))), .val (.int x1), .val (.int x2), .val (.int x3), .val (.int x4), .unset, .unset, .unset] []))
          refine own_via (fun t k => XS.iload XJ164_15.here hx rfl (hb hby at_166) rfl k) ?_
          show OwnEnds p.tables e below _ (TJ164_15.setTop (mkF m 168 #[.val (.int p0), .val (.int p1), .val n0v, .val n1v, .val n2v, .val n3v, .val n4v, .val n5v, .val n6v, .val (.int (own_bit p0 (0 : Int32))), .val (.int x1), .val (.int x2), .val (.int x3), .val (.int x4), .unset, .unset, .unset] [(.int x2)]))
          have J184_16 : ∀ (TJ184_16 : State) (locsJ184_16 : List Loc), ∀ x5 : Int32, Stand p l e room_1 s m #[(.int p0), (.int p1)] below meth c TJ184_16 locsJ184_16 21 63 → TJ184_16.heap = h10 → Fr n0 locsJ184_16 → x5 = (if x2 = (0 : Int32) then (0 : Int32) else (if (own_bit p0 (5 : Int32)) = (0 : Int32) then (0 : Int32) else (1 : Int32))) → OwnEnds p.tables e below (OwnQ s 56 192 (Q0 Z p0 p1 ca cx h0 n0)) (TJ184_16.setTop (mkF m 184 #[.val (.int p0), .val (.int p1), .val n0v, .val n1v, .val n2v, .val n3v, .val n4v, .val n5v, .val n6v, .val (.int (own_bit p0 (0 : Int32))), .val (.int x1), .val (.int x2), .val (.int x3), .val (.int x4), .unset, .unset, .unset] [(.int x5)])) := by
            intro TJ184_16 locsJ184_16 x5 XJ184_16 eJ184_16 NJ184_16 h_x5
            refine own_via (fun t k => XS.istore XJ184_16.here hx rfl (hb hby at_184) rfl (l' := #[.val (.int p0), .val (.int p1), .val n0v, .val n1v, .val n2v, .val n3v, .val n4v, .val n5v, .val n6v, .val (.int (own_bit p0 (0 : Int32))), .val (.int x1), .val (.int x2), .val (.int x3), .val (.int x4), .val (.int x5), .unset, .unset]) rfl k) ?_
            show OwnEnds p.tables e below _ (TJ184_16.setTop (mkF m 186 #[.val (.int p0), .val (.int p1), .val n0v, .val n1v, .val n2v, .val n3v, .val n4v, .val n5v, .val n6v, .val (.int (own_bit p0 (0 : Int32))), .val (.int x1), .val (.int x2), .val (.int x3), .val (.int x4), .val (.int x5), .unset, .unset] []))
            refine own_via (fun t k => XS.iload XJ184_16.here hx rfl (hb hby at_186) rfl k) ?_
            show OwnEnds p.tables e below _ (TJ184_16.setTop (mkF m 188 #[.val (.int p0), .val (.int p1), .val n0v, .val n1v, .val n2v, .val n3v, .val n4v, .val n5v, .val n6v, .val (.int (own_bit p0 (0 : Int32))), .val (.int x1), .val (.int x2), .val (.int x3), .val (.int x4), .val (.int x5), .unset, .unset] [(.int x2)]))
            have J205_17 : ∀ (TJ205_17 : State) (locsJ205_17 : List Loc), ∀ x6 : Int32, Stand p l e room_1 s m #[(.int p0), (.int p1)] below meth c TJ205_17 locsJ205_17 21 63 → TJ205_17.heap = h10 → Fr n0 locsJ205_17 → x6 = (if x2 = (0 : Int32) then (0 : Int32) else (if (own_bit p0 (6 : Int32)) = (0 : Int32) then (0 : Int32) else (1 : Int32))) → OwnEnds p.tables e below (OwnQ s 56 192 (Q0 Z p0 p1 ca cx h0 n0)) (TJ205_17.setTop (mkF m 205 #[.val (.int p0), .val (.int p1), .val n0v, .val n1v, .val n2v, .val n3v, .val n4v, .val n5v, .val n6v, .val (.int (own_bit p0 (0 : Int32))), .val (.int x1), .val (.int x2), .val (.int x3), .val (.int x4), .val (.int x5), .unset, .unset] [(.int x6)])) := by
              intro TJ205_17 locsJ205_17 x6 XJ205_17 eJ205_17 NJ205_17 h_x6
              refine own_via (fun t k => XS.istore XJ205_17.here hx rfl (hb hby at_205) rfl (l' := #[.val (.int p0), .val (.int p1), .val n0v, .val n1v, .val n2v, .val n3v, .val n4v, .val n5v, .val n6v, .val (.int (own_bit p0 (0 : Int32))), .val (.int x1), .val (.int x2), .val (.int x3), .val (.int x4), .val (.int x5), .val (.int x6), .unset]) rfl k) ?_
              show OwnEnds p.tables e below _ (TJ205_17.setTop (mkF m 207 #[.val (.int p0), .val (.int p1), .val n0v, .val n1v, .val n2v, .val n3v, .val n4v, .val n5v, .val n6v, .val (.int (own_bit p0 (0 : Int32))), .val (.int x1), .val (.int x2), .val (.int x3), .val (.int x4), .val (.int x5), .val (.int x6), .unset] []))
              refine own_via (fun t k => XS.iload XJ205_17.here hx rfl (hb hby at_207) rfl k) ?_
              show OwnEnds p.tables e below _ (TJ205_17.setTop (mkF m 209 #[.val (.int p0), .val (.int p1), .val n0v, .val n1v, .val n2v, .val n3v, .val n4v, .val n5v, .val n6v, .val (.int (own_bit p0 (0 : Int32))), .val (.int x1), .val (.int x2), .val (.int x3), .val (.int x4), .val (.int x5), .val (.int x6), .unset] [(.int (own_bit p0 (0 : Int32)))]))
              have J217_18 : ∀ t0 : Int32, t0 = (if (own_bit p0 (0 : Int32)) = (0 : Int32) then (0 : Int32) else (1 : Int32)) → OwnEnds p.tables e below (OwnQ s 56 192 (Q0 Z p0 p1 ca cx h0 n0)) (TJ205_17.setTop (mkF m 217 #[.val (.int p0), .val (.int p1), .val n0v, .val n1v, .val n2v, .val n3v, .val n4v, .val n5v, .val n6v, .val (.int (own_bit p0 (0 : Int32))), .val (.int x1), .val (.int x2), .val (.int x3), .val (.int x4), .val (.int x5), .val (.int x6), .unset] [(.int t0)])) := by
                intro t0 h_t0
                refine own_via (fun t k => XS.iload XJ205_17.here hx rfl (hb hby at_217) rfl k) ?_
                show OwnEnds p.tables e below _ (TJ205_17.setTop (mkF m 219 #[.val (.int p0), .val (.int p1), .val n0v, .val n1v, .val n2v, .val n3v, .val n4v, .val n5v, .val n6v, .val (.int (own_bit p0 (0 : Int32))), .val (.int x1), .val (.int x2), .val (.int x3), .val (.int x4), .val (.int x5), .val (.int x6), .unset] [(.int x1), (.int t0)]))
                have J227_19 : ∀ t1 : Int32, t1 = (if x1 = (0 : Int32) then (0 : Int32) else (1 : Int32)) → OwnEnds p.tables e below (OwnQ s 56 192 (Q0 Z p0 p1 ca cx h0 n0)) (TJ205_17.setTop (mkF m 227 #[.val (.int p0), .val (.int p1), .val n0v, .val n1v, .val n2v, .val n3v, .val n4v, .val n5v, .val n6v, .val (.int (own_bit p0 (0 : Int32))), .val (.int x1), .val (.int x2), .val (.int x3), .val (.int x4), .val (.int x5), .val (.int x6), .unset] [(.int t1), (.int t0)])) := by
                  intro t1 h_t1
                  refine own_via (fun t k => XS.iadd XJ205_17.here hx rfl (hb hby at_227) rfl k) ?_
                  show OwnEnds p.tables e below _ (TJ205_17.setTop (mkF m 228 #[.val (.int p0), .val (.int p1), .val n0v, .val n1v, .val n2v, .val n3v, .val n4v, .val n5v, .val n6v, .val (.int (own_bit p0 (0 : Int32))), .val (.int x1), .val (.int x2), .val (.int x3), .val (.int x4), .val (.int x5), .val (.int x6), .unset] [(.int (t0 + t1))]))
                  refine own_via (fun t k => XS.iload XJ205_17.here hx rfl (hb hby at_228) rfl k) ?_
                  show OwnEnds p.tables e below _ (TJ205_17.setTop (mkF m 230 #[.val (.int p0), .val (.int p1), .val n0v, .val n1v, .val n2v, .val n3v, .val n4v, .val n5v, .val n6v, .val (.int (own_bit p0 (0 : Int32))), .val (.int x1), .val (.int x2), .val (.int x3), .val (.int x4), .val (.int x5), .val (.int x6), .unset] [(.int x2), (.int (t0 + t1))]))
                  have J238_20 : ∀ t2 : Int32, t2 = (if x2 = (0 : Int32) then (0 : Int32) else (1 : Int32)) → OwnEnds p.tables e below (OwnQ s 56 192 (Q0 Z p0 p1 ca cx h0 n0)) (TJ205_17.setTop (mkF m 238 #[.val (.int p0), .val (.int p1), .val n0v, .val n1v, .val n2v, .val n3v, .val n4v, .val n5v, .val n6v, .val (.int (own_bit p0 (0 : Int32))), .val (.int x1), .val (.int x2), .val (.int x3), .val (.int x4), .val (.int x5), .val (.int x6), .unset] [(.int t2), (.int (t0 + t1))])) := by
                    intro t2 h_t2
                    refine own_via (fun t k => XS.iadd XJ205_17.here hx rfl (hb hby at_238) rfl k) ?_
                    show OwnEnds p.tables e below _ (TJ205_17.setTop (mkF m 239 #[.val (.int p0), .val (.int p1), .val n0v, .val n1v, .val n2v, .val n3v, .val n4v, .val n5v, .val n6v, .val (.int (own_bit p0 (0 : Int32))), .val (.int x1), .val (.int x2), .val (.int x3), .val (.int x4), .val (.int x5), .val (.int x6), .unset] [(.int ((t0 + t1) + t2))]))
                    refine own_via (fun t k => XS.iload XJ205_17.here hx rfl (hb hby at_239) rfl k) ?_
                    show OwnEnds p.tables e below _ (TJ205_17.setTop (mkF m 241 #[.val (.int p0), .val (.int p1), .val n0v, .val n1v, .val n2v, .val n3v, .val n4v, .val n5v, .val n6v, .val (.int (own_bit p0 (0 : Int32))), .val (.int x1), .val (.int x2), .val (.int x3), .val (.int x4), .val (.int x5), .val (.int x6), .unset] [(.int x3), (.int ((t0 + t1) + t2))]))
                    have J249_21 : ∀ t3 : Int32, t3 = (if x3 = (0 : Int32) then (0 : Int32) else (1 : Int32)) → OwnEnds p.tables e below (OwnQ s 56 192 (Q0 Z p0 p1 ca cx h0 n0)) (TJ205_17.setTop (mkF m 249 #[.val (.int p0), .val (.int p1), .val n0v, .val n1v, .val n2v, .val n3v, .val n4v, .val n5v, .val n6v, .val (.int (own_bit p0 (0 : Int32))), .val (.int x1), .val (.int x2), .val (.int x3), .val (.int x4), .val (.int x5), .val (.int x6), .unset] [(.int t3), (.int ((t0 + t1) + t2))])) := by
                      intro t3 h_t3
                      refine own_via (fun t k => XS.iadd XJ205_17.here hx rfl (hb hby at_249) rfl k) ?_
                      show OwnEnds p.tables e below _ (TJ205_17.setTop (mkF m 250 #[.val (.int p0), .val (.int p1), .val n0v, .val n1v, .val n2v, .val n3v, .val n4v, .val n5v, .val n6v, .val (.int (own_bit p0 (0 : Int32))), .val (.int x1), .val (.int x2), .val (.int x3), .val (.int x4), .val (.int x5), .val (.int x6), .unset] [(.int (((t0 + t1) + t2) + t3))]))
                      refine own_via (fun t k => XS.iload XJ205_17.here hx rfl (hb hby at_250) rfl k) ?_
                      show OwnEnds p.tables e below _ (TJ205_17.setTop (mkF m 252 #[.val (.int p0), .val (.int p1), .val n0v, .val n1v, .val n2v, .val n3v, .val n4v, .val n5v, .val n6v, .val (.int (own_bit p0 (0 : Int32))), .val (.int x1), .val (.int x2), .val (.int x3), .val (.int x4), .val (.int x5), .val (.int x6), .unset] [(.int x4), (.int (((t0 + t1) + t2) + t3))]))
                      have J260_22 : ∀ t4 : Int32, t4 = (if x4 = (0 : Int32) then (0 : Int32) else (1 : Int32)) → OwnEnds p.tables e below (OwnQ s 56 192 (Q0 Z p0 p1 ca cx h0 n0)) (TJ205_17.setTop (mkF m 260 #[.val (.int p0), .val (.int p1), .val n0v, .val n1v, .val n2v, .val n3v, .val n4v, .val n5v, .val n6v, .val (.int (own_bit p0 (0 : Int32))), .val (.int x1), .val (.int x2), .val (.int x3), .val (.int x4), .val (.int x5), .val (.int x6), .unset] [(.int t4), (.int (((t0 + t1) + t2) + t3))])) := by
                        intro t4 h_t4
                        refine own_via (fun t k => XS.iadd XJ205_17.here hx rfl (hb hby at_260) rfl k) ?_
                        show OwnEnds p.tables e below _ (TJ205_17.setTop (mkF m 261 #[.val (.int p0), .val (.int p1), .val n0v, .val n1v, .val n2v, .val n3v, .val n4v, .val n5v, .val n6v, .val (.int (own_bit p0 (0 : Int32))), .val (.int x1), .val (.int x2), .val (.int x3), .val (.int x4), .val (.int x5), .val (.int x6), .unset] [(.int ((((t0 + t1) + t2) + t3) + t4))]))
                        refine own_via (fun t k => XS.iload XJ205_17.here hx rfl (hb hby at_261) rfl k) ?_
                        show OwnEnds p.tables e below _ (TJ205_17.setTop (mkF m 263 #[.val (.int p0), .val (.int p1), .val n0v, .val n1v, .val n2v, .val n3v, .val n4v, .val n5v, .val n6v, .val (.int (own_bit p0 (0 : Int32))), .val (.int x1), .val (.int x2), .val (.int x3), .val (.int x4), .val (.int x5), .val (.int x6), .unset] [(.int x5), (.int ((((t0 + t1) + t2) + t3) + t4))]))
                        have J271_23 : ∀ t5 : Int32, t5 = (if x5 = (0 : Int32) then (0 : Int32) else (1 : Int32)) → OwnEnds p.tables e below (OwnQ s 56 192 (Q0 Z p0 p1 ca cx h0 n0)) (TJ205_17.setTop (mkF m 271 #[.val (.int p0), .val (.int p1), .val n0v, .val n1v, .val n2v, .val n3v, .val n4v, .val n5v, .val n6v, .val (.int (own_bit p0 (0 : Int32))), .val (.int x1), .val (.int x2), .val (.int x3), .val (.int x4), .val (.int x5), .val (.int x6), .unset] [(.int t5), (.int ((((t0 + t1) + t2) + t3) + t4))])) := by
                          intro t5 h_t5
                          refine own_via (fun t k => XS.iadd XJ205_17.here hx rfl (hb hby at_271) rfl k) ?_
                          show OwnEnds p.tables e below _ (TJ205_17.setTop (mkF m 272 #[.val (.int p0), .val (.int p1), .val n0v, .val n1v, .val n2v, .val n3v, .val n4v, .val n5v, .val n6v, .val (.int (own_bit p0 (0 : Int32))), .val (.int x1), .val (.int x2), .val (.int x3), .val (.int x4), .val (.int x5), .val (.int x6), .unset] [(.int (((((t0 + t1) + t2) + t3) + t4) + t5))]))
                          refine own_via (fun t k => XS.iload XJ205_17.here hx rfl (hb hby at_272) rfl k) ?_
                          show OwnEnds p.tables e below _ (TJ205_17.setTop (mkF m 274 #[.val (.int p0), .val (.int p1), .val n0v, .val n1v, .val n2v, .val n3v, .val n4v, .val n5v, .val n6v, .val (.int (own_bit p0 (0 : Int32))), .val (.int x1), .val (.int x2), .val (.int x3), .val (.int x4), .val (.int x5), .val (.int x6), .unset] [(.int x6), (.int (((((t0 + t1) + t2) + t3) + t4) + t5))]))
                          have J282_24 : ∀ t6 : Int32, t6 = (if x6 = (0 : Int32) then (0 : Int32) else (1 : Int32)) → OwnEnds p.tables e below (OwnQ s 56 192 (Q0 Z p0 p1 ca cx h0 n0)) (TJ205_17.setTop (mkF m 282 #[.val (.int p0), .val (.int p1), .val n0v, .val n1v, .val n2v, .val n3v, .val n4v, .val n5v, .val n6v, .val (.int (own_bit p0 (0 : Int32))), .val (.int x1), .val (.int x2), .val (.int x3), .val (.int x4), .val (.int x5), .val (.int x6), .unset] [(.int t6), (.int (((((t0 + t1) + t2) + t3) + t4) + t5))])) := by
                            intro t6 h_t6
                            refine own_via (fun t k => XS.iadd XJ205_17.here hx rfl (hb hby at_282) rfl k) ?_
                            show OwnEnds p.tables e below _ (TJ205_17.setTop (mkF m 283 #[.val (.int p0), .val (.int p1), .val n0v, .val n1v, .val n2v, .val n3v, .val n4v, .val n5v, .val n6v, .val (.int (own_bit p0 (0 : Int32))), .val (.int x1), .val (.int x2), .val (.int x3), .val (.int x4), .val (.int x5), .val (.int x6), .unset] [(.int ((((((t0 + t1) + t2) + t3) + t4) + t5) + t6))]))
                            refine own_via (fun t k => XS.istore XJ205_17.here hx rfl (hb hby at_283) rfl (l' := #[.val (.int p0), .val (.int p1), .val n0v, .val n1v, .val n2v, .val n3v, .val n4v, .val n5v, .val n6v, .val (.int (own_bit p0 (0 : Int32))), .val (.int x1), .val (.int x2), .val (.int x3), .val (.int x4), .val (.int x5), .val (.int x6), .val (.int ((((((t0 + t1) + t2) + t3) + t4) + t5) + t6))]) rfl k) ?_
                            show OwnEnds p.tables e below _ (TJ205_17.setTop (mkF m 285 #[.val (.int p0), .val (.int p1), .val n0v, .val n1v, .val n2v, .val n3v, .val n4v, .val n5v, .val n6v, .val (.int (own_bit p0 (0 : Int32))), .val (.int x1), .val (.int x2), .val (.int x3), .val (.int x4), .val (.int x5), .val (.int x6), .val (.int ((((((t0 + t1) + t2) + t3) + t4) + t5) + t6))] []))
                            refine own_via (fun t k => XS.aloadN XJ205_17.here hx rfl (hb hby at_285) rfl hr_n0v k) ?_
                            show OwnEnds p.tables e below _ (TJ205_17.setTop (mkF m 286 #[.val (.int p0), .val (.int p1), .val n0v, .val n1v, .val n2v, .val n3v, .val n4v, .val n5v, .val n6v, .val (.int (own_bit p0 (0 : Int32))), .val (.int x1), .val (.int x2), .val (.int x3), .val (.int x4), .val (.int x5), .val (.int x6), .val (.int ((((((t0 + t1) + t2) + t3) + t4) + t5) + t6))] [n0v]))
                            obtain ⟨_, _, ⟨T25, L25, k25, n25⟩, -, X25, ⟨Lc25, hQ25, l25, y25, z25⟩, st25⟩ := Jvm.LawKit.callS XJ205_17 hx (y := (⟨"com/example/rowan/rowan/Node", "count", "(Lcom/example/rowan/rowan/Node;)I"⟩ : MethodName)) hown (mvT hZ (hw _ (List.mem_of_getElem? (i := 10) rfl))) (mvT hZ (hw _ (List.mem_of_getElem? (i := 11) rfl))) (mvT hZ (hw _ (List.mem_of_getElem? (i := 12) rfl))) (mvT hZ (hw _ (List.mem_of_getElem? (i := 13) rfl))) (by decide) (backOf (W := 0) (rm43 l Z aw hw [] n0v (if own_bit p0 0 = 0 then 0 else 1 + (if own_bit p0 1 = 0 then 0 else 1 + (if own_bit p0 3 = 0 then 0 else 1 + 0 + 0) + (if own_bit p0 4 = 0 then 0 else 1 + 0 + 0)) + (if own_bit p0 2 = 0 then 0 else 1 + (if own_bit p0 5 = 0 then 0 else 1 + 0 + 0) + (if own_bit p0 6 = 0 then 0 else 1 + 0 + 0))) h10 n0 Zs_10 HT) hZ (hw _ (List.mem_of_getElem? (i := 13) rfl)) (hw _ (List.mem_of_getElem? (i := 12) rfl)) (by decide) (by decide)) (g := (mkF m 286 #[.val (.int p0), .val (.int p1), .val n0v, .val n1v, .val n2v, .val n3v, .val n4v, .val n5v, .val n6v, .val (.int (own_bit p0 (0 : Int32))), .val (.int x1), .val (.int x2), .val (.int x3), .val (.int x4), .val (.int x5), .val (.int x6), .val (.int ((((((t0 + t1) + t2) + t3) + t4) + t5) + t6))] [n0v])) rfl (by rw [hml]; rfl) (argsL := [n0v]) (rest := []) (lenOf pd_5 rfl) rfl (by show 2 * 0 + _ ≤ _; exact Nat.le_of_eq rfl) (hb hby at_286) (fun _ _ => ⟨rfl, eJ205_17, (by decide : 21 + 0 ≤ _), (by decide : 63 + 0 ≤ _)⟩)
                            dsimp only [Pt.U, Pt.locs, Pt.cells, Pt.slots] at X25 l25 y25 z25 st25 hQ25
                            subst l25 y25 z25
                            obtain ⟨rfl, Nq25, e25⟩ := hQ25
                            have N25 := Fr.app NJ205_17 Nq25
                            replace e25 : T25.heap = h10 := e25
                            refine own_via st25 ?_
                            show OwnEnds p.tables e below _ (T25.setTop (mkF m 289 #[.val (.int p0), .val (.int p1), .val n0v, .val n1v, .val n2v, .val n3v, .val n4v, .val n5v, .val n6v, .val (.int (own_bit p0 (0 : Int32))), .val (.int x1), .val (.int x2), .val (.int x3), .val (.int x4), .val (.int x5), .val (.int x6), .val (.int ((((((t0 + t1) + t2) + t3) + t4) + t5) + t6))] [(.int (if own_bit p0 0 = 0 then 0 else 1 + (if own_bit p0 1 = 0 then 0 else 1 + (if own_bit p0 3 = 0 then 0 else 1 + 0 + 0) + (if own_bit p0 4 = 0 then 0 else 1 + 0 + 0)) + (if own_bit p0 2 = 0 then 0 else 1 + (if own_bit p0 5 = 0 then 0 else 1 + 0 + 0) + (if own_bit p0 6 = 0 then 0 else 1 + 0 + 0))))]))
                            refine own_via (fun t k => XS.iload X25.here hx rfl (hb hby at_289) rfl k) ?_
                            show OwnEnds p.tables e below _ (T25.setTop (mkF m 291 #[.val (.int p0), .val (.int p1), .val n0v, .val n1v, .val n2v, .val n3v, .val n4v, .val n5v, .val n6v, .val (.int (own_bit p0 (0 : Int32))), .val (.int x1), .val (.int x2), .val (.int x3), .val (.int x4), .val (.int x5), .val (.int x6), .val (.int ((((((t0 + t1) + t2) + t3) + t4) + t5) + t6))] [(.int ((((((t0 + t1) + t2) + t3) + t4) + t5) + t6)), (.int (if own_bit p0 0 = 0 then 0 else 1 + (if own_bit p0 1 = 0 then 0 else 1 + (if own_bit p0 3 = 0 then 0 else 1 + 0 + 0) + (if own_bit p0 4 = 0 then 0 else 1 + 0 + 0)) + (if own_bit p0 2 = 0 then 0 else 1 + (if own_bit p0 5 = 0 then 0 else 1 + 0 + 0) + (if own_bit p0 6 = 0 then 0 else 1 + 0 + 0))))]))
                            have hc291_26 : (if own_bit p0 0 = 0 then 0 else 1 + (if own_bit p0 1 = 0 then 0 else 1 + (if own_bit p0 3 = 0 then 0 else 1 + 0 + 0) + (if own_bit p0 4 = 0 then 0 else 1 + 0 + 0)) + (if own_bit p0 2 = 0 then 0 else 1 + (if own_bit p0 5 = 0 then 0 else 1 + 0 + 0) + (if own_bit p0 6 = 0 then 0 else 1 + 0 + 0))) = ((((((t0 + t1) + t2) + t3) + t4) + t5) + t6) := by rw [h_t6, h_t5, h_t4, h_t3, h_t2, h_t1, h_t0, h_x6, h_x5, h_x4, h_x3, h_x2, h_x1]; exact (own_sum _ (own_mem p0 0) _ (own_mem p0 1) _ (own_mem p0 2) _ (own_mem p0 3) _ (own_mem p0 4) _ (own_mem p0 5) _ (own_mem p0 6))
                            refine own_via (fun t k => XS.icmpNo X25.here hx rfl (hb hby at_291) rfl (teq hc291_26).2 k) ?_
                            show OwnEnds p.tables e below _ (T25.setTop (mkF m 294 #[.val (.int p0), .val (.int p1), .val n0v, .val n1v, .val n2v, .val n3v, .val n4v, .val n5v, .val n6v, .val (.int (own_bit p0 (0 : Int32))), .val (.int x1), .val (.int x2), .val (.int x3), .val (.int x4), .val (.int x5), .val (.int x6), .val (.int ((((((t0 + t1) + t2) + t3) + t4) + t5) + t6))] []))
                            refine own_via (fun t k => XS.iconst X25.here hx rfl (hb hby at_294) k) ?_
                            show OwnEnds p.tables e below _ (T25.setTop (mkF m 295 #[.val (.int p0), .val (.int p1), .val n0v, .val n1v, .val n2v, .val n3v, .val n4v, .val n5v, .val n6v, .val (.int (own_bit p0 (0 : Int32))), .val (.int x1), .val (.int x2), .val (.int x3), .val (.int x4), .val (.int x5), .val (.int x6), .val (.int ((((((t0 + t1) + t2) + t3) + t4) + t5) + t6))] [(.int (1 : Int32))]))
                            refine own_via (fun t k => XS.goto X25.here hx rfl (pc0 := 295) (pc' := 299) rfl (hb hby at_295) (by decide) (by decide) k) ?_
                            show OwnEnds p.tables e below _ (T25.setTop (mkF m 299 #[.val (.int p0), .val (.int p1), .val n0v, .val n1v, .val n2v, .val n3v, .val n4v, .val n5v, .val n6v, .val (.int (own_bit p0 (0 : Int32))), .val (.int x1), .val (.int x2), .val (.int x3), .val (.int x4), .val (.int x5), .val (.int x6), .val (.int ((((((t0 + t1) + t2) + t3) + t4) + t5) + t6))] [(.int (1 : Int32))]))
                            refine own_retN (t := .boolean) X25 hx Bd.returns (by simp) hlk (hb hby at_299) ?_ (by decide) (by decide)
                            rw [e25]
                            exact ⟨rfl, N25⟩
                          by_cases hc274_27 : x6 = (0 : Int32)
                          · skip
                            refine own_via (fun t k => XS.ifYes XJ205_17.here hx rfl (pc0 := 274) (pc' := 281) rfl (hb hby at_274) rfl ((if0 _ _).trans (teq hc274_27).1) (by decide) (by decide) k) ?_
                            show OwnEnds p.tables e below _ (TJ205_17.setTop (mkF m 281 #[.val (.int p0), .val (.int p1), .val n0v, .val n1v, .val n2v, .val n3v, .val n4v, .val n5v, .val n6v, .val (.int (own_bit p0 (0 : Int32))), .val (.int x1), .val (.int x2), .val (.int x3), .val (.int x4), .val (.int x5), .val (.int x6), .unset] [(.int (((((t0 + t1) + t2) + t3) + t4) + t5))]))
                            refine own_via (fun t k => XS.iconst XJ205_17.here hx rfl (hb hby at_281) k) ?_
                            show OwnEnds p.tables e below _ (TJ205_17.setTop (mkF m 282 #[.val (.int p0), .val (.int p1), .val n0v, .val n1v, .val n2v, .val n3v, .val n4v, .val n5v, .val n6v, .val (.int (own_bit p0 (0 : Int32))), .val (.int x1), .val (.int x2), .val (.int x3), .val (.int x4), .val (.int x5), .val (.int x6), .unset] [(.int (0 : Int32)), (.int (((((t0 + t1) + t2) + t3) + t4) + t5))]))
                            exact J282_24 _ (by simp only [if_pos hc274_27])
                          · skip
                            refine own_via (fun t k => XS.ifNo XJ205_17.here hx rfl (hb hby at_274) rfl ((if0 _ _).trans (feq hc274_27).1) k) ?_
                            show OwnEnds p.tables e below _ (TJ205_17.setTop (mkF m 277 #[.val (.int p0), .val (.int p1), .val n0v, .val n1v, .val n2v, .val n3v, .val n4v, .val n5v, .val n6v, .val (.int (own_bit p0 (0 : Int32))), .val (.int x1), .val (.int x2), .val (.int x3), .val (.int x4), .val (.int x5), .val (.int x6), .unset] [(.int (((((t0 + t1) + t2) + t3) + t4) + t5))]))
                            refine own_via (fun t k => XS.iconst XJ205_17.here hx rfl (hb hby at_277) k) ?_
                            show OwnEnds p.tables e below _ (TJ205_17.setTop (mkF m 278 #[.val (.int p0), .val (.int p1), .val n0v, .val n1v, .val n2v, .val n3v, .val n4v, .val n5v, .val n6v, .val (.int (own_bit p0 (0 : Int32))), .val (.int x1), .val (.int x2), .val (.int x3), .val (.int x4), .val (.int x5), .val (.int x6), .unset] [(.int (1 : Int32)), (.int (((((t0 + t1) + t2) + t3) + t4) + t5))]))
                            refine own_via (fun t k => XS.goto XJ205_17.here hx rfl (pc0 := 278) (pc' := 282) rfl (hb hby at_278) (by decide) (by decide) k) ?_
                            show OwnEnds p.tables e below _ (TJ205_17.setTop (mkF m 282 #[.val (.int p0), .val (.int p1), .val n0v, .val n1v, .val n2v, .val n3v, .val n4v, .val n5v, .val n6v, .val (.int (own_bit p0 (0 : Int32))), .val (.int x1), .val (.int x2), .val (.int x3), .val (.int x4), .val (.int x5), .val (.int x6), .unset] [(.int (1 : Int32)), (.int (((((t0 + t1) + t2) + t3) + t4) + t5))]))
                            exact J282_24 _ (by simp only [if_neg hc274_27])
                        by_cases hc263_28 : x5 = (0 : Int32)
                        · skip
                          refine own_via (fun t k => XS.ifYes XJ205_17.here hx rfl (pc0 := 263) (pc' := 270) rfl (hb hby at_263) rfl ((if0 _ _).trans (teq hc263_28).1) (by decide) (by decide) k) ?_
                          show OwnEnds p.tables e below _ (TJ205_17.setTop (mkF m 270 #[.val (.int p0), .val (.int p1), .val n0v, .val n1v, .val n2v, .val n3v, .val n4v, .val n5v, .val n6v, .val (.int (own_bit p0 (0 : Int32))), .val (.int x1), .val (.int x2), .val (.int x3), .val (.int x4), .val (.int x5), .val (.int x6), .unset] [(.int ((((t0 + t1) + t2) + t3) + t4))]))
                          refine own_via (fun t k => XS.iconst XJ205_17.here hx rfl (hb hby at_270) k) ?_
                          show OwnEnds p.tables e below _ (TJ205_17.setTop (mkF m 271 #[.val (.int p0), .val (.int p1), .val n0v, .val n1v, .val n2v, .val n3v, .val n4v, .val n5v, .val n6v, .val (.int (own_bit p0 (0 : Int32))), .val (.int x1), .val (.int x2), .val (.int x3), .val (.int x4), .val (.int x5), .val (.int x6), .unset] [(.int (0 : Int32)), (.int ((((t0 + t1) + t2) + t3) + t4))]))
                          exact J271_23 _ (by simp only [if_pos hc263_28])
                        · skip
                          refine own_via (fun t k => XS.ifNo XJ205_17.here hx rfl (hb hby at_263) rfl ((if0 _ _).trans (feq hc263_28).1) k) ?_
                          show OwnEnds p.tables e below _ (TJ205_17.setTop (mkF m 266 #[.val (.int p0), .val (.int p1), .val n0v, .val n1v, .val n2v, .val n3v, .val n4v, .val n5v, .val n6v, .val (.int (own_bit p0 (0 : Int32))), .val (.int x1), .val (.int x2), .val (.int x3), .val (.int x4), .val (.int x5), .val (.int x6), .unset] [(.int ((((t0 + t1) + t2) + t3) + t4))]))
                          refine own_via (fun t k => XS.iconst XJ205_17.here hx rfl (hb hby at_266) k) ?_
                          show OwnEnds p.tables e below _ (TJ205_17.setTop (mkF m 267 #[.val (.int p0), .val (.int p1), .val n0v, .val n1v, .val n2v, .val n3v, .val n4v, .val n5v, .val n6v, .val (.int (own_bit p0 (0 : Int32))), .val (.int x1), .val (.int x2), .val (.int x3), .val (.int x4), .val (.int x5), .val (.int x6), .unset] [(.int (1 : Int32)), (.int ((((t0 + t1) + t2) + t3) + t4))]))
                          refine own_via (fun t k => XS.goto XJ205_17.here hx rfl (pc0 := 267) (pc' := 271) rfl (hb hby at_267) (by decide) (by decide) k) ?_
                          show OwnEnds p.tables e below _ (TJ205_17.setTop (mkF m 271 #[.val (.int p0), .val (.int p1), .val n0v, .val n1v, .val n2v, .val n3v, .val n4v, .val n5v, .val n6v, .val (.int (own_bit p0 (0 : Int32))), .val (.int x1), .val (.int x2), .val (.int x3), .val (.int x4), .val (.int x5), .val (.int x6), .unset] [(.int (1 : Int32)), (.int ((((t0 + t1) + t2) + t3) + t4))]))
                          exact J271_23 _ (by simp only [if_neg hc263_28])
                      by_cases hc252_29 : x4 = (0 : Int32)
                      · skip
                        refine own_via (fun t k => XS.ifYes XJ205_17.here hx rfl (pc0 := 252) (pc' := 259) rfl (hb hby at_252) rfl ((if0 _ _).trans (teq hc252_29).1) (by decide) (by decide) k) ?_
                        show OwnEnds p.tables e below _ (TJ205_17.setTop (mkF m 259 #[.val (.int p0), .val (.int p1), .val n0v, .val n1v, .val n2v, .val n3v, .val n4v, .val n5v, .val n6v, .val (.int (own_bit p0 (0 : Int32))), .val (.int x1), .val (.int x2), .val (.int x3), .val (.int x4), .val (.int x5), .val (.int x6), .unset] [(.int (((t0 + t1) + t2) + t3))]))
                        refine own_via (fun t k => XS.iconst XJ205_17.here hx rfl (hb hby at_259) k) ?_
                        show OwnEnds p.tables e below _ (TJ205_17.setTop (mkF m 260 #[.val (.int p0), .val (.int p1), .val n0v, .val n1v, .val n2v, .val n3v, .val n4v, .val n5v, .val n6v, .val (.int (own_bit p0 (0 : Int32))), .val (.int x1), .val (.int x2), .val (.int x3), .val (.int x4), .val (.int x5), .val (.int x6), .unset] [(.int (0 : Int32)), (.int (((t0 + t1) + t2) + t3))]))
                        exact J260_22 _ (by simp only [if_pos hc252_29])
                      · skip
                        refine own_via (fun t k => XS.ifNo XJ205_17.here hx rfl (hb hby at_252) rfl ((if0 _ _).trans (feq hc252_29).1) k) ?_
                        show OwnEnds p.tables e below _ (TJ205_17.setTop (mkF m 255 #[.val (.int p0), .val (.int p1), .val n0v, .val n1v, .val n2v, .val n3v, .val n4v, .val n5v, .val n6v, .val (.int (own_bit p0 (0 : Int32))), .val (.int x1), .val (.int x2), .val (.int x3), .val (.int x4), .val (.int x5), .val (.int x6), .unset] [(.int (((t0 + t1) + t2) + t3))]))
                        refine own_via (fun t k => XS.iconst XJ205_17.here hx rfl (hb hby at_255) k) ?_
                        show OwnEnds p.tables e below _ (TJ205_17.setTop (mkF m 256 #[.val (.int p0), .val (.int p1), .val n0v, .val n1v, .val n2v, .val n3v, .val n4v, .val n5v, .val n6v, .val (.int (own_bit p0 (0 : Int32))), .val (.int x1), .val (.int x2), .val (.int x3), .val (.int x4), .val (.int x5), .val (.int x6), .unset] [(.int (1 : Int32)), (.int (((t0 + t1) + t2) + t3))]))
                        refine own_via (fun t k => XS.goto XJ205_17.here hx rfl (pc0 := 256) (pc' := 260) rfl (hb hby at_256) (by decide) (by decide) k) ?_
                        show OwnEnds p.tables e below _ (TJ205_17.setTop (mkF m 260 #[.val (.int p0), .val (.int p1), .val n0v, .val n1v, .val n2v, .val n3v, .val n4v, .val n5v, .val n6v, .val (.int (own_bit p0 (0 : Int32))), .val (.int x1), .val (.int x2), .val (.int x3), .val (.int x4), .val (.int x5), .val (.int x6), .unset] [(.int (1 : Int32)), (.int (((t0 + t1) + t2) + t3))]))
                        exact J260_22 _ (by simp only [if_neg hc252_29])
                    by_cases hc241_30 : x3 = (0 : Int32)
                    · skip
                      refine own_via (fun t k => XS.ifYes XJ205_17.here hx rfl (pc0 := 241) (pc' := 248) rfl (hb hby at_241) rfl ((if0 _ _).trans (teq hc241_30).1) (by decide) (by decide) k) ?_
                      show OwnEnds p.tables e below _ (TJ205_17.setTop (mkF m 248 #[.val (.int p0), .val (.int p1), .val n0v, .val n1v, .val n2v, .val n3v, .val n4v, .val n5v, .val n6v, .val (.int (own_bit p0 (0 : Int32))), .val (.int x1), .val (.int x2), .val (.int x3), .val (.int x4), .val (.int x5), .val (.int x6), .unset] [(.int ((t0 + t1) + t2))]))
                      refine own_via (fun t k => XS.iconst XJ205_17.here hx rfl (hb hby at_248) k) ?_
                      show OwnEnds p.tables e below _ (TJ205_17.setTop (mkF m 249 #[.val (.int p0), .val (.int p1), .val n0v, .val n1v, .val n2v, .val n3v, .val n4v, .val n5v, .val n6v, .val (.int (own_bit p0 (0 : Int32))), .val (.int x1), .val (.int x2), .val (.int x3), .val (.int x4), .val (.int x5), .val (.int x6), .unset] [(.int (0 : Int32)), (.int ((t0 + t1) + t2))]))
                      exact J249_21 _ (by simp only [if_pos hc241_30])
                    · skip
                      refine own_via (fun t k => XS.ifNo XJ205_17.here hx rfl (hb hby at_241) rfl ((if0 _ _).trans (feq hc241_30).1) k) ?_
                      show OwnEnds p.tables e below _ (TJ205_17.setTop (mkF m 244 #[.val (.int p0), .val (.int p1), .val n0v, .val n1v, .val n2v, .val n3v, .val n4v, .val n5v, .val n6v, .val (.int (own_bit p0 (0 : Int32))), .val (.int x1), .val (.int x2), .val (.int x3), .val (.int x4), .val (.int x5), .val (.int x6), .unset] [(.int ((t0 + t1) + t2))]))
                      refine own_via (fun t k => XS.iconst XJ205_17.here hx rfl (hb hby at_244) k) ?_
                      show OwnEnds p.tables e below _ (TJ205_17.setTop (mkF m 245 #[.val (.int p0), .val (.int p1), .val n0v, .val n1v, .val n2v, .val n3v, .val n4v, .val n5v, .val n6v, .val (.int (own_bit p0 (0 : Int32))), .val (.int x1), .val (.int x2), .val (.int x3), .val (.int x4), .val (.int x5), .val (.int x6), .unset] [(.int (1 : Int32)), (.int ((t0 + t1) + t2))]))
                      refine own_via (fun t k => XS.goto XJ205_17.here hx rfl (pc0 := 245) (pc' := 249) rfl (hb hby at_245) (by decide) (by decide) k) ?_
                      show OwnEnds p.tables e below _ (TJ205_17.setTop (mkF m 249 #[.val (.int p0), .val (.int p1), .val n0v, .val n1v, .val n2v, .val n3v, .val n4v, .val n5v, .val n6v, .val (.int (own_bit p0 (0 : Int32))), .val (.int x1), .val (.int x2), .val (.int x3), .val (.int x4), .val (.int x5), .val (.int x6), .unset] [(.int (1 : Int32)), (.int ((t0 + t1) + t2))]))
                      exact J249_21 _ (by simp only [if_neg hc241_30])
                  by_cases hc230_31 : x2 = (0 : Int32)
                  · skip
                    refine own_via (fun t k => XS.ifYes XJ205_17.here hx rfl (pc0 := 230) (pc' := 237) rfl (hb hby at_230) rfl ((if0 _ _).trans (teq hc230_31).1) (by decide) (by decide) k) ?_
                    show OwnEnds p.tables e below _ (TJ205_17.setTop (mkF m 237 #[.val (.int p0), .val (.int p1), .val n0v, .val n1v, .val n2v, .val n3v, .val n4v, .val n5v, .val n6v, .val (.int (own_bit p0 (0 : Int32))), .val (.int x1), .val (.int x2), .val (.int x3), .val (.int x4), .val (.int x5), .val (.int x6), .unset] [(.int (t0 + t1))]))
                    refine own_via (fun t k => XS.iconst XJ205_17.here hx rfl (hb hby at_237) k) ?_
                    show OwnEnds p.tables e below _ (TJ205_17.setTop (mkF m 238 #[.val (.int p0), .val (.int p1), .val n0v, .val n1v, .val n2v, .val n3v, .val n4v, .val n5v, .val n6v, .val (.int (own_bit p0 (0 : Int32))), .val (.int x1), .val (.int x2), .val (.int x3), .val (.int x4), .val (.int x5), .val (.int x6), .unset] [(.int (0 : Int32)), (.int (t0 + t1))]))
                    exact J238_20 _ (by simp only [if_pos hc230_31])
                  · skip
                    refine own_via (fun t k => XS.ifNo XJ205_17.here hx rfl (hb hby at_230) rfl ((if0 _ _).trans (feq hc230_31).1) k) ?_
                    show OwnEnds p.tables e below _ (TJ205_17.setTop (mkF m 233 #[.val (.int p0), .val (.int p1), .val n0v, .val n1v, .val n2v, .val n3v, .val n4v, .val n5v, .val n6v, .val (.int (own_bit p0 (0 : Int32))), .val (.int x1), .val (.int x2), .val (.int x3), .val (.int x4), .val (.int x5), .val (.int x6), .unset] [(.int (t0 + t1))]))
                    refine own_via (fun t k => XS.iconst XJ205_17.here hx rfl (hb hby at_233) k) ?_
                    show OwnEnds p.tables e below _ (TJ205_17.setTop (mkF m 234 #[.val (.int p0), .val (.int p1), .val n0v, .val n1v, .val n2v, .val n3v, .val n4v, .val n5v, .val n6v, .val (.int (own_bit p0 (0 : Int32))), .val (.int x1), .val (.int x2), .val (.int x3), .val (.int x4), .val (.int x5), .val (.int x6), .unset] [(.int (1 : Int32)), (.int (t0 + t1))]))
                    refine own_via (fun t k => XS.goto XJ205_17.here hx rfl (pc0 := 234) (pc' := 238) rfl (hb hby at_234) (by decide) (by decide) k) ?_
                    show OwnEnds p.tables e below _ (TJ205_17.setTop (mkF m 238 #[.val (.int p0), .val (.int p1), .val n0v, .val n1v, .val n2v, .val n3v, .val n4v, .val n5v, .val n6v, .val (.int (own_bit p0 (0 : Int32))), .val (.int x1), .val (.int x2), .val (.int x3), .val (.int x4), .val (.int x5), .val (.int x6), .unset] [(.int (1 : Int32)), (.int (t0 + t1))]))
                    exact J238_20 _ (by simp only [if_neg hc230_31])
                by_cases hc219_32 : x1 = (0 : Int32)
                · skip
                  refine own_via (fun t k => XS.ifYes XJ205_17.here hx rfl (pc0 := 219) (pc' := 226) rfl (hb hby at_219) rfl ((if0 _ _).trans (teq hc219_32).1) (by decide) (by decide) k) ?_
                  show OwnEnds p.tables e below _ (TJ205_17.setTop (mkF m 226 #[.val (.int p0), .val (.int p1), .val n0v, .val n1v, .val n2v, .val n3v, .val n4v, .val n5v, .val n6v, .val (.int (own_bit p0 (0 : Int32))), .val (.int x1), .val (.int x2), .val (.int x3), .val (.int x4), .val (.int x5), .val (.int x6), .unset] [(.int t0)]))
                  refine own_via (fun t k => XS.iconst XJ205_17.here hx rfl (hb hby at_226) k) ?_
                  show OwnEnds p.tables e below _ (TJ205_17.setTop (mkF m 227 #[.val (.int p0), .val (.int p1), .val n0v, .val n1v, .val n2v, .val n3v, .val n4v, .val n5v, .val n6v, .val (.int (own_bit p0 (0 : Int32))), .val (.int x1), .val (.int x2), .val (.int x3), .val (.int x4), .val (.int x5), .val (.int x6), .unset] [(.int (0 : Int32)), (.int t0)]))
                  exact J227_19 _ (by simp only [if_pos hc219_32])
                · skip
                  refine own_via (fun t k => XS.ifNo XJ205_17.here hx rfl (hb hby at_219) rfl ((if0 _ _).trans (feq hc219_32).1) k) ?_
                  show OwnEnds p.tables e below _ (TJ205_17.setTop (mkF m 222 #[.val (.int p0), .val (.int p1), .val n0v, .val n1v, .val n2v, .val n3v, .val n4v, .val n5v, .val n6v, .val (.int (own_bit p0 (0 : Int32))), .val (.int x1), .val (.int x2), .val (.int x3), .val (.int x4), .val (.int x5), .val (.int x6), .unset] [(.int t0)]))
                  refine own_via (fun t k => XS.iconst XJ205_17.here hx rfl (hb hby at_222) k) ?_
                  show OwnEnds p.tables e below _ (TJ205_17.setTop (mkF m 223 #[.val (.int p0), .val (.int p1), .val n0v, .val n1v, .val n2v, .val n3v, .val n4v, .val n5v, .val n6v, .val (.int (own_bit p0 (0 : Int32))), .val (.int x1), .val (.int x2), .val (.int x3), .val (.int x4), .val (.int x5), .val (.int x6), .unset] [(.int (1 : Int32)), (.int t0)]))
                  refine own_via (fun t k => XS.goto XJ205_17.here hx rfl (pc0 := 223) (pc' := 227) rfl (hb hby at_223) (by decide) (by decide) k) ?_
                  show OwnEnds p.tables e below _ (TJ205_17.setTop (mkF m 227 #[.val (.int p0), .val (.int p1), .val n0v, .val n1v, .val n2v, .val n3v, .val n4v, .val n5v, .val n6v, .val (.int (own_bit p0 (0 : Int32))), .val (.int x1), .val (.int x2), .val (.int x3), .val (.int x4), .val (.int x5), .val (.int x6), .unset] [(.int (1 : Int32)), (.int t0)]))
                  exact J227_19 _ (by simp only [if_neg hc219_32])
              by_cases hc209_33 : (own_bit p0 (0 : Int32)) = (0 : Int32)
              · skip
                refine own_via (fun t k => XS.ifYes XJ205_17.here hx rfl (pc0 := 209) (pc' := 216) rfl (hb hby at_209) rfl ((if0 _ _).trans (teq hc209_33).1) (by decide) (by decide) k) ?_
                show OwnEnds p.tables e below _ (TJ205_17.setTop (mkF m 216 #[.val (.int p0), .val (.int p1), .val n0v, .val n1v, .val n2v, .val n3v, .val n4v, .val n5v, .val n6v, .val (.int (own_bit p0 (0 : Int32))), .val (.int x1), .val (.int x2), .val (.int x3), .val (.int x4), .val (.int x5), .val (.int x6), .unset] []))
                refine own_via (fun t k => XS.iconst XJ205_17.here hx rfl (hb hby at_216) k) ?_
                show OwnEnds p.tables e below _ (TJ205_17.setTop (mkF m 217 #[.val (.int p0), .val (.int p1), .val n0v, .val n1v, .val n2v, .val n3v, .val n4v, .val n5v, .val n6v, .val (.int (own_bit p0 (0 : Int32))), .val (.int x1), .val (.int x2), .val (.int x3), .val (.int x4), .val (.int x5), .val (.int x6), .unset] [(.int (0 : Int32))]))
                exact J217_18 _ (by simp only [if_pos hc209_33])
              · skip
                refine own_via (fun t k => XS.ifNo XJ205_17.here hx rfl (hb hby at_209) rfl ((if0 _ _).trans (feq hc209_33).1) k) ?_
                show OwnEnds p.tables e below _ (TJ205_17.setTop (mkF m 212 #[.val (.int p0), .val (.int p1), .val n0v, .val n1v, .val n2v, .val n3v, .val n4v, .val n5v, .val n6v, .val (.int (own_bit p0 (0 : Int32))), .val (.int x1), .val (.int x2), .val (.int x3), .val (.int x4), .val (.int x5), .val (.int x6), .unset] []))
                refine own_via (fun t k => XS.iconst XJ205_17.here hx rfl (hb hby at_212) k) ?_
                show OwnEnds p.tables e below _ (TJ205_17.setTop (mkF m 213 #[.val (.int p0), .val (.int p1), .val n0v, .val n1v, .val n2v, .val n3v, .val n4v, .val n5v, .val n6v, .val (.int (own_bit p0 (0 : Int32))), .val (.int x1), .val (.int x2), .val (.int x3), .val (.int x4), .val (.int x5), .val (.int x6), .unset] [(.int (1 : Int32))]))
                refine own_via (fun t k => XS.goto XJ205_17.here hx rfl (pc0 := 213) (pc' := 217) rfl (hb hby at_213) (by decide) (by decide) k) ?_
                show OwnEnds p.tables e below _ (TJ205_17.setTop (mkF m 217 #[.val (.int p0), .val (.int p1), .val n0v, .val n1v, .val n2v, .val n3v, .val n4v, .val n5v, .val n6v, .val (.int (own_bit p0 (0 : Int32))), .val (.int x1), .val (.int x2), .val (.int x3), .val (.int x4), .val (.int x5), .val (.int x6), .unset] [(.int (1 : Int32))]))
                exact J217_18 _ (by simp only [if_neg hc209_33])
            by_cases hc188_34 : x2 = (0 : Int32)
            · skip
              refine own_via (fun t k => XS.ifYes XJ184_16.here hx rfl (pc0 := 188) (pc' := 204) rfl (hb hby at_188) rfl ((if0 _ _).trans (teq hc188_34).1) (by decide) (by decide) k) ?_
              show OwnEnds p.tables e below _ (TJ184_16.setTop (mkF m 204 #[.val (.int p0), .val (.int p1), .val n0v, .val n1v, .val n2v, .val n3v, .val n4v, .val n5v, .val n6v, .val (.int (own_bit p0 (0 : Int32))), .val (.int x1), .val (.int x2), .val (.int x3), .val (.int x4), .val (.int x5), .unset, .unset] []))
              refine own_via (fun t k => XS.iconst XJ184_16.here hx rfl (hb hby at_204) k) ?_
              show OwnEnds p.tables e below _ (TJ184_16.setTop (mkF m 205 #[.val (.int p0), .val (.int p1), .val n0v, .val n1v, .val n2v, .val n3v, .val n4v, .val n5v, .val n6v, .val (.int (own_bit p0 (0 : Int32))), .val (.int x1), .val (.int x2), .val (.int x3), .val (.int x4), .val (.int x5), .unset, .unset] [(.int (0 : Int32))]))
              exact J205_17 _ _ _ (own_wide XJ184_16 (by decide) (by decide)) eJ184_16 NJ184_16 (by simp only [if_pos hc188_34])
            · skip
              refine own_via (fun t k => XS.ifNo XJ184_16.here hx rfl (hb hby at_188) rfl ((if0 _ _).trans (feq hc188_34).1) k) ?_
              show OwnEnds p.tables e below _ (TJ184_16.setTop (mkF m 191 #[.val (.int p0), .val (.int p1), .val n0v, .val n1v, .val n2v, .val n3v, .val n4v, .val n5v, .val n6v, .val (.int (own_bit p0 (0 : Int32))), .val (.int x1), .val (.int x2), .val (.int x3), .val (.int x4), .val (.int x5), .unset, .unset] []))
              refine own_via (fun t k => XS.iloadN XJ184_16.here hx rfl (hb hby at_191) rfl k) ?_
              show OwnEnds p.tables e below _ (TJ184_16.setTop (mkF m 192 #[.val (.int p0), .val (.int p1), .val n0v, .val n1v, .val n2v, .val n3v, .val n4v, .val n5v, .val n6v, .val (.int (own_bit p0 (0 : Int32))), .val (.int x1), .val (.int x2), .val (.int x3), .val (.int x4), .val (.int x5), .unset, .unset] [(.int p0)]))
              refine own_via (fun t k => XS.bipush XJ184_16.here hx rfl (hb hby at_192) k) ?_
              show OwnEnds p.tables e below _ (TJ184_16.setTop (mkF m 194 #[.val (.int p0), .val (.int p1), .val n0v, .val n1v, .val n2v, .val n3v, .val n4v, .val n5v, .val n6v, .val (.int (own_bit p0 (0 : Int32))), .val (.int x1), .val (.int x2), .val (.int x3), .val (.int x4), .val (.int x5), .unset, .unset] [(.int (6 : Int32)), (.int p0)]))
              obtain ⟨_, _, ⟨T35, L35, k35, n35⟩, -, X35, ⟨Lc35, hQ35, l35, y35, z35⟩, st35⟩ := Jvm.LawKit.callS XJ184_16 hx (y := (⟨"com/example/rowan/rowan/NodeCountPinLaw", "bit", "(II)Z"⟩ : MethodName)) hown (mvT hZ (hw _ (List.mem_of_getElem? (i := 4) rfl))) (mvT hZ (hw _ (List.mem_of_getElem? (i := 5) rfl))) (mvT hZ (hw _ (List.mem_of_getElem? (i := 2) rfl))) (mvT hZ (hw _ (List.mem_of_getElem? (i := 6) rfl))) (by decide) (backOf (W := 0) (rm2 l Z aw hw [] p0 (6 : Int32) h10 n0 Zs_10 ) hZ (hw _ (List.mem_of_getElem? (i := 6) rfl)) (hw _ (List.mem_of_getElem? (i := 2) rfl)) (by decide) (by decide)) (g := (mkF m 194 #[.val (.int p0), .val (.int p1), .val n0v, .val n1v, .val n2v, .val n3v, .val n4v, .val n5v, .val n6v, .val (.int (own_bit p0 (0 : Int32))), .val (.int x1), .val (.int x2), .val (.int x3), .val (.int x4), .val (.int x5), .unset, .unset] [(.int (6 : Int32)), (.int p0)])) rfl (by rw [hml]; rfl) (argsL := [(.int p0), (.int (6 : Int32))]) (rest := []) (lenOf pd_2 rfl) rfl (by show 2 * 0 + _ ≤ _; exact Nat.le_of_eq rfl) (hb hby at_194) (fun _ _ => ⟨rfl, eJ184_16, (by decide : 21 + 0 ≤ _), (by decide : 63 + 0 ≤ _)⟩)
              dsimp only [Pt.U, Pt.locs, Pt.cells, Pt.slots] at X35 l35 y35 z35 st35 hQ35
              subst l35 y35 z35
              obtain ⟨rfl, Nq35, e35⟩ := hQ35
              have N35 := Fr.app NJ184_16 Nq35
              replace e35 : T35.heap = h10 := e35
              refine own_via st35 ?_
              show OwnEnds p.tables e below _ (T35.setTop (mkF m 197 #[.val (.int p0), .val (.int p1), .val n0v, .val n1v, .val n2v, .val n3v, .val n4v, .val n5v, .val n6v, .val (.int (own_bit p0 (0 : Int32))), .val (.int x1), .val (.int x2), .val (.int x3), .val (.int x4), .val (.int x5), .unset, .unset] [(.int (own_bit p0 (6 : Int32)))]))
              by_cases hc197_36 : (own_bit p0 (6 : Int32)) = (0 : Int32)
              · skip
                refine own_via (fun t k => XS.ifYes X35.here hx rfl (pc0 := 197) (pc' := 204) rfl (hb hby at_197) rfl ((if0 _ _).trans (teq hc197_36).1) (by decide) (by decide) k) ?_
                show OwnEnds p.tables e below _ (T35.setTop (mkF m 204 #[.val (.int p0), .val (.int p1), .val n0v, .val n1v, .val n2v, .val n3v, .val n4v, .val n5v, .val n6v, .val (.int (own_bit p0 (0 : Int32))), .val (.int x1), .val (.int x2), .val (.int x3), .val (.int x4), .val (.int x5), .unset, .unset] []))
                refine own_via (fun t k => XS.iconst X35.here hx rfl (hb hby at_204) k) ?_
                show OwnEnds p.tables e below _ (T35.setTop (mkF m 205 #[.val (.int p0), .val (.int p1), .val n0v, .val n1v, .val n2v, .val n3v, .val n4v, .val n5v, .val n6v, .val (.int (own_bit p0 (0 : Int32))), .val (.int x1), .val (.int x2), .val (.int x3), .val (.int x4), .val (.int x5), .unset, .unset] [(.int (0 : Int32))]))
                exact J205_17 _ _ _ (own_wide X35 (by decide) (by decide)) e35 N35 (by simp only [if_neg hc188_34, if_pos hc197_36])
              · skip
                refine own_via (fun t k => XS.ifNo X35.here hx rfl (hb hby at_197) rfl ((if0 _ _).trans (feq hc197_36).1) k) ?_
                show OwnEnds p.tables e below _ (T35.setTop (mkF m 200 #[.val (.int p0), .val (.int p1), .val n0v, .val n1v, .val n2v, .val n3v, .val n4v, .val n5v, .val n6v, .val (.int (own_bit p0 (0 : Int32))), .val (.int x1), .val (.int x2), .val (.int x3), .val (.int x4), .val (.int x5), .unset, .unset] []))
                refine own_via (fun t k => XS.iconst X35.here hx rfl (hb hby at_200) k) ?_
                show OwnEnds p.tables e below _ (T35.setTop (mkF m 201 #[.val (.int p0), .val (.int p1), .val n0v, .val n1v, .val n2v, .val n3v, .val n4v, .val n5v, .val n6v, .val (.int (own_bit p0 (0 : Int32))), .val (.int x1), .val (.int x2), .val (.int x3), .val (.int x4), .val (.int x5), .unset, .unset] [(.int (1 : Int32))]))
                refine own_via (fun t k => XS.goto X35.here hx rfl (pc0 := 201) (pc' := 205) rfl (hb hby at_201) (by decide) (by decide) k) ?_
                show OwnEnds p.tables e below _ (T35.setTop (mkF m 205 #[.val (.int p0), .val (.int p1), .val n0v, .val n1v, .val n2v, .val n3v, .val n4v, .val n5v, .val n6v, .val (.int (own_bit p0 (0 : Int32))), .val (.int x1), .val (.int x2), .val (.int x3), .val (.int x4), .val (.int x5), .unset, .unset] [(.int (1 : Int32))]))
                exact J205_17 _ _ _ (own_wide X35 (by decide) (by decide)) e35 N35 (by simp only [if_neg hc188_34, if_neg hc197_36])
          by_cases hc168_37 : x2 = (0 : Int32)
          · skip
            refine own_via (fun t k => XS.ifYes XJ164_15.here hx rfl (pc0 := 168) (pc' := 183) rfl (hb hby at_168) rfl ((if0 _ _).trans (teq hc168_37).1) (by decide) (by decide) k) ?_
            show OwnEnds p.tables e below _ (TJ164_15.setTop (mkF m 183 #[.val (.int p0), .val (.int p1), .val n0v, .val n1v, .val n2v, .val n3v, .val n4v, .val n5v, .val n6v, .val (.int (own_bit p0 (0 : Int32))), .val (.int x1), .val (.int x2), .val (.int x3), .val (.int x4), .unset, .unset, .unset] []))
            refine own_via (fun t k => XS.iconst XJ164_15.here hx rfl (hb hby at_183) k) ?_
            show OwnEnds p.tables e below _ (TJ164_15.setTop (mkF m 184 #[.val (.int p0), .val (.int p1), .val n0v, .val n1v, .val n2v, .val n3v, .val n4v, .val n5v, .val n6v, .val (.int (own_bit p0 (0 : Int32))), .val (.int x1), .val (.int x2), .val (.int x3), .val (.int x4), .unset, .unset, .unset] [(.int (0 : Int32))]))
            exact J184_16 _ _ _ (own_wide XJ164_15 (by decide) (by decide)) eJ164_15 NJ164_15 (by simp only [if_pos hc168_37])
          · skip
            refine own_via (fun t k => XS.ifNo XJ164_15.here hx rfl (hb hby at_168) rfl ((if0 _ _).trans (feq hc168_37).1) k) ?_
            show OwnEnds p.tables e below _ (TJ164_15.setTop (mkF m 171 #[.val (.int p0), .val (.int p1), .val n0v, .val n1v, .val n2v, .val n3v, .val n4v, .val n5v, .val n6v, .val (.int (own_bit p0 (0 : Int32))), .val (.int x1), .val (.int x2), .val (.int x3), .val (.int x4), .unset, .unset, .unset] []))
            refine own_via (fun t k => XS.iloadN XJ164_15.here hx rfl (hb hby at_171) rfl k) ?_
            show OwnEnds p.tables e below _ (TJ164_15.setTop (mkF m 172 #[.val (.int p0), .val (.int p1), .val n0v, .val n1v, .val n2v, .val n3v, .val n4v, .val n5v, .val n6v, .val (.int (own_bit p0 (0 : Int32))), .val (.int x1), .val (.int x2), .val (.int x3), .val (.int x4), .unset, .unset, .unset] [(.int p0)]))
            refine own_via (fun t k => XS.iconst XJ164_15.here hx rfl (hb hby at_172) k) ?_
            show OwnEnds p.tables e below _ (TJ164_15.setTop (mkF m 173 #[.val (.int p0), .val (.int p1), .val n0v, .val n1v, .val n2v, .val n3v, .val n4v, .val n5v, .val n6v, .val (.int (own_bit p0 (0 : Int32))), .val (.int x1), .val (.int x2), .val (.int x3), .val (.int x4), .unset, .unset, .unset] [(.int (5 : Int32)), (.int p0)]))
            obtain ⟨_, _, ⟨T38, L38, k38, n38⟩, -, X38, ⟨Lc38, hQ38, l38, y38, z38⟩, st38⟩ := Jvm.LawKit.callS XJ164_15 hx (y := (⟨"com/example/rowan/rowan/NodeCountPinLaw", "bit", "(II)Z"⟩ : MethodName)) hown (mvT hZ (hw _ (List.mem_of_getElem? (i := 4) rfl))) (mvT hZ (hw _ (List.mem_of_getElem? (i := 5) rfl))) (mvT hZ (hw _ (List.mem_of_getElem? (i := 2) rfl))) (mvT hZ (hw _ (List.mem_of_getElem? (i := 6) rfl))) (by decide) (backOf (W := 0) (rm2 l Z aw hw [] p0 (5 : Int32) h10 n0 Zs_10 ) hZ (hw _ (List.mem_of_getElem? (i := 6) rfl)) (hw _ (List.mem_of_getElem? (i := 2) rfl)) (by decide) (by decide)) (g := (mkF m 173 #[.val (.int p0), .val (.int p1), .val n0v, .val n1v, .val n2v, .val n3v, .val n4v, .val n5v, .val n6v, .val (.int (own_bit p0 (0 : Int32))), .val (.int x1), .val (.int x2), .val (.int x3), .val (.int x4), .unset, .unset, .unset] [(.int (5 : Int32)), (.int p0)])) rfl (by rw [hml]; rfl) (argsL := [(.int p0), (.int (5 : Int32))]) (rest := []) (lenOf pd_2 rfl) rfl (by show 2 * 0 + _ ≤ _; exact Nat.le_of_eq rfl) (hb hby at_173) (fun _ _ => ⟨rfl, eJ164_15, (by decide : 21 + 0 ≤ _), (by decide : 63 + 0 ≤ _)⟩)
            dsimp only [Pt.U, Pt.locs, Pt.cells, Pt.slots] at X38 l38 y38 z38 st38 hQ38
            subst l38 y38 z38
            obtain ⟨rfl, Nq38, e38⟩ := hQ38
            have N38 := Fr.app NJ164_15 Nq38
            replace e38 : T38.heap = h10 := e38
            refine own_via st38 ?_
            show OwnEnds p.tables e below _ (T38.setTop (mkF m 176 #[.val (.int p0), .val (.int p1), .val n0v, .val n1v, .val n2v, .val n3v, .val n4v, .val n5v, .val n6v, .val (.int (own_bit p0 (0 : Int32))), .val (.int x1), .val (.int x2), .val (.int x3), .val (.int x4), .unset, .unset, .unset] [(.int (own_bit p0 (5 : Int32)))]))
            by_cases hc176_39 : (own_bit p0 (5 : Int32)) = (0 : Int32)
            · skip
              refine own_via (fun t k => XS.ifYes X38.here hx rfl (pc0 := 176) (pc' := 183) rfl (hb hby at_176) rfl ((if0 _ _).trans (teq hc176_39).1) (by decide) (by decide) k) ?_
              show OwnEnds p.tables e below _ (T38.setTop (mkF m 183 #[.val (.int p0), .val (.int p1), .val n0v, .val n1v, .val n2v, .val n3v, .val n4v, .val n5v, .val n6v, .val (.int (own_bit p0 (0 : Int32))), .val (.int x1), .val (.int x2), .val (.int x3), .val (.int x4), .unset, .unset, .unset] []))
              refine own_via (fun t k => XS.iconst X38.here hx rfl (hb hby at_183) k) ?_
              show OwnEnds p.tables e below _ (T38.setTop (mkF m 184 #[.val (.int p0), .val (.int p1), .val n0v, .val n1v, .val n2v, .val n3v, .val n4v, .val n5v, .val n6v, .val (.int (own_bit p0 (0 : Int32))), .val (.int x1), .val (.int x2), .val (.int x3), .val (.int x4), .unset, .unset, .unset] [(.int (0 : Int32))]))
              exact J184_16 _ _ _ (own_wide X38 (by decide) (by decide)) e38 N38 (by simp only [if_neg hc168_37, if_pos hc176_39])
            · skip
              refine own_via (fun t k => XS.ifNo X38.here hx rfl (hb hby at_176) rfl ((if0 _ _).trans (feq hc176_39).1) k) ?_
              show OwnEnds p.tables e below _ (T38.setTop (mkF m 179 #[.val (.int p0), .val (.int p1), .val n0v, .val n1v, .val n2v, .val n3v, .val n4v, .val n5v, .val n6v, .val (.int (own_bit p0 (0 : Int32))), .val (.int x1), .val (.int x2), .val (.int x3), .val (.int x4), .unset, .unset, .unset] []))
              refine own_via (fun t k => XS.iconst X38.here hx rfl (hb hby at_179) k) ?_
              show OwnEnds p.tables e below _ (T38.setTop (mkF m 180 #[.val (.int p0), .val (.int p1), .val n0v, .val n1v, .val n2v, .val n3v, .val n4v, .val n5v, .val n6v, .val (.int (own_bit p0 (0 : Int32))), .val (.int x1), .val (.int x2), .val (.int x3), .val (.int x4), .unset, .unset, .unset] [(.int (1 : Int32))]))
              refine own_via (fun t k => XS.goto X38.here hx rfl (pc0 := 180) (pc' := 184) rfl (hb hby at_180) (by decide) (by decide) k) ?_
              show OwnEnds p.tables e below _ (T38.setTop (mkF m 184 #[.val (.int p0), .val (.int p1), .val n0v, .val n1v, .val n2v, .val n3v, .val n4v, .val n5v, .val n6v, .val (.int (own_bit p0 (0 : Int32))), .val (.int x1), .val (.int x2), .val (.int x3), .val (.int x4), .unset, .unset, .unset] [(.int (1 : Int32))]))
              exact J184_16 _ _ _ (own_wide X38 (by decide) (by decide)) e38 N38 (by simp only [if_neg hc168_37, if_neg hc176_39])
        by_cases hc148_40 : x1 = (0 : Int32)
        · skip
          refine own_via (fun t k => XS.ifYes XJ144_14.here hx rfl (pc0 := 148) (pc' := 163) rfl (hb hby at_148) rfl ((if0 _ _).trans (teq hc148_40).1) (by decide) (by decide) k) ?_
          show OwnEnds p.tables e below _ (TJ144_14.setTop (mkF m 163 #[.val (.int p0), .val (.int p1), .val n0v, .val n1v, .val n2v, .val n3v, .val n4v, .val n5v, .val n6v, .val (.int (own_bit p0 (0 : Int32))), .val (.int x1), .val (.int x2), .val (.int x3), .unset, .unset, .unset, .unset] []))
          refine own_via (fun t k => XS.iconst XJ144_14.here hx rfl (hb hby at_163) k) ?_
          show OwnEnds p.tables e below _ (TJ144_14.setTop (mkF m 164 #[.val (.int p0), .val (.int p1), .val n0v, .val n1v, .val n2v, .val n3v, .val n4v, .val n5v, .val n6v, .val (.int (own_bit p0 (0 : Int32))), .val (.int x1), .val (.int x2), .val (.int x3), .unset, .unset, .unset, .unset] [(.int (0 : Int32))]))
          exact J164_15 _ _ _ (own_wide XJ144_14 (by decide) (by decide)) eJ144_14 NJ144_14 (by simp only [if_pos hc148_40])
        · skip
          refine own_via (fun t k => XS.ifNo XJ144_14.here hx rfl (hb hby at_148) rfl ((if0 _ _).trans (feq hc148_40).1) k) ?_
          show OwnEnds p.tables e below _ (TJ144_14.setTop (mkF m 151 #[.val (.int p0), .val (.int p1), .val n0v, .val n1v, .val n2v, .val n3v, .val n4v, .val n5v, .val n6v, .val (.int (own_bit p0 (0 : Int32))), .val (.int x1), .val (.int x2), .val (.int x3), .unset, .unset, .unset, .unset] []))
          refine own_via (fun t k => XS.iloadN XJ144_14.here hx rfl (hb hby at_151) rfl k) ?_
          show OwnEnds p.tables e below _ (TJ144_14.setTop (mkF m 152 #[.val (.int p0), .val (.int p1), .val n0v, .val n1v, .val n2v, .val n3v, .val n4v, .val n5v, .val n6v, .val (.int (own_bit p0 (0 : Int32))), .val (.int x1), .val (.int x2), .val (.int x3), .unset, .unset, .unset, .unset] [(.int p0)]))
          refine own_via (fun t k => XS.iconst XJ144_14.here hx rfl (hb hby at_152) k) ?_
          show OwnEnds p.tables e below _ (TJ144_14.setTop (mkF m 153 #[.val (.int p0), .val (.int p1), .val n0v, .val n1v, .val n2v, .val n3v, .val n4v, .val n5v, .val n6v, .val (.int (own_bit p0 (0 : Int32))), .val (.int x1), .val (.int x2), .val (.int x3), .unset, .unset, .unset, .unset] [(.int (4 : Int32)), (.int p0)]))
          obtain ⟨_, _, ⟨T41, L41, k41, n41⟩, -, X41, ⟨Lc41, hQ41, l41, y41, z41⟩, st41⟩ := Jvm.LawKit.callS XJ144_14 hx (y := (⟨"com/example/rowan/rowan/NodeCountPinLaw", "bit", "(II)Z"⟩ : MethodName)) hown (mvT hZ (hw _ (List.mem_of_getElem? (i := 4) rfl))) (mvT hZ (hw _ (List.mem_of_getElem? (i := 5) rfl))) (mvT hZ (hw _ (List.mem_of_getElem? (i := 2) rfl))) (mvT hZ (hw _ (List.mem_of_getElem? (i := 6) rfl))) (by decide) (backOf (W := 0) (rm2 l Z aw hw [] p0 (4 : Int32) h10 n0 Zs_10 ) hZ (hw _ (List.mem_of_getElem? (i := 6) rfl)) (hw _ (List.mem_of_getElem? (i := 2) rfl)) (by decide) (by decide)) (g := (mkF m 153 #[.val (.int p0), .val (.int p1), .val n0v, .val n1v, .val n2v, .val n3v, .val n4v, .val n5v, .val n6v, .val (.int (own_bit p0 (0 : Int32))), .val (.int x1), .val (.int x2), .val (.int x3), .unset, .unset, .unset, .unset] [(.int (4 : Int32)), (.int p0)])) rfl (by rw [hml]; rfl) (argsL := [(.int p0), (.int (4 : Int32))]) (rest := []) (lenOf pd_2 rfl) rfl (by show 2 * 0 + _ ≤ _; exact Nat.le_of_eq rfl) (hb hby at_153) (fun _ _ => ⟨rfl, eJ144_14, (by decide : 21 + 0 ≤ _), (by decide : 63 + 0 ≤ _)⟩)
          dsimp only [Pt.U, Pt.locs, Pt.cells, Pt.slots] at X41 l41 y41 z41 st41 hQ41
          subst l41 y41 z41
          obtain ⟨rfl, Nq41, e41⟩ := hQ41
          have N41 := Fr.app NJ144_14 Nq41
          replace e41 : T41.heap = h10 := e41
          refine own_via st41 ?_
          show OwnEnds p.tables e below _ (T41.setTop (mkF m 156 #[.val (.int p0), .val (.int p1), .val n0v, .val n1v, .val n2v, .val n3v, .val n4v, .val n5v, .val n6v, .val (.int (own_bit p0 (0 : Int32))), .val (.int x1), .val (.int x2), .val (.int x3), .unset, .unset, .unset, .unset] [(.int (own_bit p0 (4 : Int32)))]))
          by_cases hc156_42 : (own_bit p0 (4 : Int32)) = (0 : Int32)
          · skip
            refine own_via (fun t k => XS.ifYes X41.here hx rfl (pc0 := 156) (pc' := 163) rfl (hb hby at_156) rfl ((if0 _ _).trans (teq hc156_42).1) (by decide) (by decide) k) ?_
            show OwnEnds p.tables e below _ (T41.setTop (mkF m 163 #[.val (.int p0), .val (.int p1), .val n0v, .val n1v, .val n2v, .val n3v, .val n4v, .val n5v, .val n6v, .val (.int (own_bit p0 (0 : Int32))), .val (.int x1), .val (.int x2), .val (.int x3), .unset, .unset, .unset, .unset] []))
            refine own_via (fun t k => XS.iconst X41.here hx rfl (hb hby at_163) k) ?_
            show OwnEnds p.tables e below _ (T41.setTop (mkF m 164 #[.val (.int p0), .val (.int p1), .val n0v, .val n1v, .val n2v, .val n3v, .val n4v, .val n5v, .val n6v, .val (.int (own_bit p0 (0 : Int32))), .val (.int x1), .val (.int x2), .val (.int x3), .unset, .unset, .unset, .unset] [(.int (0 : Int32))]))
            exact J164_15 _ _ _ (own_wide X41 (by decide) (by decide)) e41 N41 (by simp only [if_neg hc148_40, if_pos hc156_42])
          · skip
            refine own_via (fun t k => XS.ifNo X41.here hx rfl (hb hby at_156) rfl ((if0 _ _).trans (feq hc156_42).1) k) ?_
            show OwnEnds p.tables e below _ (T41.setTop (mkF m 159 #[.val (.int p0), .val (.int p1), .val n0v, .val n1v, .val n2v, .val n3v, .val n4v, .val n5v, .val n6v, .val (.int (own_bit p0 (0 : Int32))), .val (.int x1), .val (.int x2), .val (.int x3), .unset, .unset, .unset, .unset] []))
            refine own_via (fun t k => XS.iconst X41.here hx rfl (hb hby at_159) k) ?_
            show OwnEnds p.tables e below _ (T41.setTop (mkF m 160 #[.val (.int p0), .val (.int p1), .val n0v, .val n1v, .val n2v, .val n3v, .val n4v, .val n5v, .val n6v, .val (.int (own_bit p0 (0 : Int32))), .val (.int x1), .val (.int x2), .val (.int x3), .unset, .unset, .unset, .unset] [(.int (1 : Int32))]))
            refine own_via (fun t k => XS.goto X41.here hx rfl (pc0 := 160) (pc' := 164) rfl (hb hby at_160) (by decide) (by decide) k) ?_
            show OwnEnds p.tables e below _ (T41.setTop (mkF m 164 #[.val (.int p0), .val (.int p1), .val n0v, .val n1v, .val n2v, .val n3v, .val n4v, .val n5v, .val n6v, .val (.int (own_bit p0 (0 : Int32))), .val (.int x1), .val (.int x2), .val (.int x3), .unset, .unset, .unset, .unset] [(.int (1 : Int32))]))
            exact J164_15 _ _ _ (own_wide X41 (by decide) (by decide)) e41 N41 (by simp only [if_neg hc148_40, if_neg hc156_42])
      by_cases hc128_43 : x1 = (0 : Int32)
      · skip
        refine own_via (fun t k => XS.ifYes XJ124_13.here hx rfl (pc0 := 128) (pc' := 143) rfl (hb hby at_128) rfl ((if0 _ _).trans (teq hc128_43).1) (by decide) (by decide) k) ?_
        show OwnEnds p.tables e below _ (TJ124_13.setTop (mkF m 143 #[.val (.int p0), .val (.int p1), .val n0v, .val n1v, .val n2v, .val n3v, .val n4v, .val n5v, .val n6v, .val (.int (own_bit p0 (0 : Int32))), .val (.int x1), .val (.int x2), .unset, .unset, .unset, .unset, .unset] []))
        refine own_via (fun t k => XS.iconst XJ124_13.here hx rfl (hb hby at_143) k) ?_
        show OwnEnds p.tables e below _ (TJ124_13.setTop (mkF m 144 #[.val (.int p0), .val (.int p1), .val n0v, .val n1v, .val n2v, .val n3v, .val n4v, .val n5v, .val n6v, .val (.int (own_bit p0 (0 : Int32))), .val (.int x1), .val (.int x2), .unset, .unset, .unset, .unset, .unset] [(.int (0 : Int32))]))
        exact J144_14 _ _ _ (own_wide XJ124_13 (by decide) (by decide)) eJ124_13 NJ124_13 (by simp only [if_pos hc128_43])
      · skip
        refine own_via (fun t k => XS.ifNo XJ124_13.here hx rfl (hb hby at_128) rfl ((if0 _ _).trans (feq hc128_43).1) k) ?_
        show OwnEnds p.tables e below _ (TJ124_13.setTop (mkF m 131 #[.val (.int p0), .val (.int p1), .val n0v, .val n1v, .val n2v, .val n3v, .val n4v, .val n5v, .val n6v, .val (.int (own_bit p0 (0 : Int32))), .val (.int x1), .val (.int x2), .unset, .unset, .unset, .unset, .unset] []))
        refine own_via (fun t k => XS.iloadN XJ124_13.here hx rfl (hb hby at_131) rfl k) ?_
        show OwnEnds p.tables e below _ (TJ124_13.setTop (mkF m 132 #[.val (.int p0), .val (.int p1), .val n0v, .val n1v, .val n2v, .val n3v, .val n4v, .val n5v, .val n6v, .val (.int (own_bit p0 (0 : Int32))), .val (.int x1), .val (.int x2), .unset, .unset, .unset, .unset, .unset] [(.int p0)]))
        refine own_via (fun t k => XS.iconst XJ124_13.here hx rfl (hb hby at_132) k) ?_
        show OwnEnds p.tables e below _ (TJ124_13.setTop (mkF m 133 #[.val (.int p0), .val (.int p1), .val n0v, .val n1v, .val n2v, .val n3v, .val n4v, .val n5v, .val n6v, .val (.int (own_bit p0 (0 : Int32))), .val (.int x1), .val (.int x2), .unset, .unset, .unset, .unset, .unset] [(.int (3 : Int32)), (.int p0)]))
        obtain ⟨_, _, ⟨T44, L44, k44, n44⟩, -, X44, ⟨Lc44, hQ44, l44, y44, z44⟩, st44⟩ := Jvm.LawKit.callS XJ124_13 hx (y := (⟨"com/example/rowan/rowan/NodeCountPinLaw", "bit", "(II)Z"⟩ : MethodName)) hown (mvT hZ (hw _ (List.mem_of_getElem? (i := 4) rfl))) (mvT hZ (hw _ (List.mem_of_getElem? (i := 5) rfl))) (mvT hZ (hw _ (List.mem_of_getElem? (i := 2) rfl))) (mvT hZ (hw _ (List.mem_of_getElem? (i := 6) rfl))) (by decide) (backOf (W := 0) (rm2 l Z aw hw [] p0 (3 : Int32) h10 n0 Zs_10 ) hZ (hw _ (List.mem_of_getElem? (i := 6) rfl)) (hw _ (List.mem_of_getElem? (i := 2) rfl)) (by decide) (by decide)) (g := (mkF m 133 #[.val (.int p0), .val (.int p1), .val n0v, .val n1v, .val n2v, .val n3v, .val n4v, .val n5v, .val n6v, .val (.int (own_bit p0 (0 : Int32))), .val (.int x1), .val (.int x2), .unset, .unset, .unset, .unset, .unset] [(.int (3 : Int32)), (.int p0)])) rfl (by rw [hml]; rfl) (argsL := [(.int p0), (.int (3 : Int32))]) (rest := []) (lenOf pd_2 rfl) rfl (by show 2 * 0 + _ ≤ _; exact Nat.le_of_eq rfl) (hb hby at_133) (fun _ _ => ⟨rfl, eJ124_13, (by decide : 21 + 0 ≤ _), (by decide : 63 + 0 ≤ _)⟩)
        dsimp only [Pt.U, Pt.locs, Pt.cells, Pt.slots] at X44 l44 y44 z44 st44 hQ44
        subst l44 y44 z44
        obtain ⟨rfl, Nq44, e44⟩ := hQ44
        have N44 := Fr.app NJ124_13 Nq44
        replace e44 : T44.heap = h10 := e44
        refine own_via st44 ?_
        show OwnEnds p.tables e below _ (T44.setTop (mkF m 136 #[.val (.int p0), .val (.int p1), .val n0v, .val n1v, .val n2v, .val n3v, .val n4v, .val n5v, .val n6v, .val (.int (own_bit p0 (0 : Int32))), .val (.int x1), .val (.int x2), .unset, .unset, .unset, .unset, .unset] [(.int (own_bit p0 (3 : Int32)))]))
        by_cases hc136_45 : (own_bit p0 (3 : Int32)) = (0 : Int32)
        · skip
          refine own_via (fun t k => XS.ifYes X44.here hx rfl (pc0 := 136) (pc' := 143) rfl (hb hby at_136) rfl ((if0 _ _).trans (teq hc136_45).1) (by decide) (by decide) k) ?_
          show OwnEnds p.tables e below _ (T44.setTop (mkF m 143 #[.val (.int p0), .val (.int p1), .val n0v, .val n1v, .val n2v, .val n3v, .val n4v, .val n5v, .val n6v, .val (.int (own_bit p0 (0 : Int32))), .val (.int x1), .val (.int x2), .unset, .unset, .unset, .unset, .unset] []))
          refine own_via (fun t k => XS.iconst X44.here hx rfl (hb hby at_143) k) ?_
          show OwnEnds p.tables e below _ (T44.setTop (mkF m 144 #[.val (.int p0), .val (.int p1), .val n0v, .val n1v, .val n2v, .val n3v, .val n4v, .val n5v, .val n6v, .val (.int (own_bit p0 (0 : Int32))), .val (.int x1), .val (.int x2), .unset, .unset, .unset, .unset, .unset] [(.int (0 : Int32))]))
          exact J144_14 _ _ _ (own_wide X44 (by decide) (by decide)) e44 N44 (by simp only [if_neg hc128_43, if_pos hc136_45])
        · skip
          refine own_via (fun t k => XS.ifNo X44.here hx rfl (hb hby at_136) rfl ((if0 _ _).trans (feq hc136_45).1) k) ?_
          show OwnEnds p.tables e below _ (T44.setTop (mkF m 139 #[.val (.int p0), .val (.int p1), .val n0v, .val n1v, .val n2v, .val n3v, .val n4v, .val n5v, .val n6v, .val (.int (own_bit p0 (0 : Int32))), .val (.int x1), .val (.int x2), .unset, .unset, .unset, .unset, .unset] []))
          refine own_via (fun t k => XS.iconst X44.here hx rfl (hb hby at_139) k) ?_
          show OwnEnds p.tables e below _ (T44.setTop (mkF m 140 #[.val (.int p0), .val (.int p1), .val n0v, .val n1v, .val n2v, .val n3v, .val n4v, .val n5v, .val n6v, .val (.int (own_bit p0 (0 : Int32))), .val (.int x1), .val (.int x2), .unset, .unset, .unset, .unset, .unset] [(.int (1 : Int32))]))
          refine own_via (fun t k => XS.goto X44.here hx rfl (pc0 := 140) (pc' := 144) rfl (hb hby at_140) (by decide) (by decide) k) ?_
          show OwnEnds p.tables e below _ (T44.setTop (mkF m 144 #[.val (.int p0), .val (.int p1), .val n0v, .val n1v, .val n2v, .val n3v, .val n4v, .val n5v, .val n6v, .val (.int (own_bit p0 (0 : Int32))), .val (.int x1), .val (.int x2), .unset, .unset, .unset, .unset, .unset] [(.int (1 : Int32))]))
          exact J144_14 _ _ _ (own_wide X44 (by decide) (by decide)) e44 N44 (by simp only [if_neg hc128_43, if_neg hc136_45])
    by_cases hc108_46 : (own_bit p0 (0 : Int32)) = (0 : Int32)
    · skip
      refine own_via (fun t k => XS.ifYes XJ104_12.here hx rfl (pc0 := 108) (pc' := 123) rfl (hb hby at_108) rfl ((if0 _ _).trans (teq hc108_46).1) (by decide) (by decide) k) ?_
      show OwnEnds p.tables e below _ (TJ104_12.setTop (mkF m 123 #[.val (.int p0), .val (.int p1), .val n0v, .val n1v, .val n2v, .val n3v, .val n4v, .val n5v, .val n6v, .val (.int (own_bit p0 (0 : Int32))), .val (.int x1), .unset, .unset, .unset, .unset, .unset, .unset] []))
      refine own_via (fun t k => XS.iconst XJ104_12.here hx rfl (hb hby at_123) k) ?_
      show OwnEnds p.tables e below _ (TJ104_12.setTop (mkF m 124 #[.val (.int p0), .val (.int p1), .val n0v, .val n1v, .val n2v, .val n3v, .val n4v, .val n5v, .val n6v, .val (.int (own_bit p0 (0 : Int32))), .val (.int x1), .unset, .unset, .unset, .unset, .unset, .unset] [(.int (0 : Int32))]))
      exact J124_13 _ _ _ (own_wide XJ104_12 (by decide) (by decide)) eJ104_12 NJ104_12 (by simp only [if_pos hc108_46])
    · skip
      refine own_via (fun t k => XS.ifNo XJ104_12.here hx rfl (hb hby at_108) rfl ((if0 _ _).trans (feq hc108_46).1) k) ?_
      show OwnEnds p.tables e below _ (TJ104_12.setTop (mkF m 111 #[.val (.int p0), .val (.int p1), .val n0v, .val n1v, .val n2v, .val n3v, .val n4v, .val n5v, .val n6v, .val (.int (own_bit p0 (0 : Int32))), .val (.int x1), .unset, .unset, .unset, .unset, .unset, .unset] []))
      refine own_via (fun t k => XS.iloadN XJ104_12.here hx rfl (hb hby at_111) rfl k) ?_
      show OwnEnds p.tables e below _ (TJ104_12.setTop (mkF m 112 #[.val (.int p0), .val (.int p1), .val n0v, .val n1v, .val n2v, .val n3v, .val n4v, .val n5v, .val n6v, .val (.int (own_bit p0 (0 : Int32))), .val (.int x1), .unset, .unset, .unset, .unset, .unset, .unset] [(.int p0)]))
      refine own_via (fun t k => XS.iconst XJ104_12.here hx rfl (hb hby at_112) k) ?_
      show OwnEnds p.tables e below _ (TJ104_12.setTop (mkF m 113 #[.val (.int p0), .val (.int p1), .val n0v, .val n1v, .val n2v, .val n3v, .val n4v, .val n5v, .val n6v, .val (.int (own_bit p0 (0 : Int32))), .val (.int x1), .unset, .unset, .unset, .unset, .unset, .unset] [(.int (2 : Int32)), (.int p0)]))
      obtain ⟨_, _, ⟨T47, L47, k47, n47⟩, -, X47, ⟨Lc47, hQ47, l47, y47, z47⟩, st47⟩ := Jvm.LawKit.callS XJ104_12 hx (y := (⟨"com/example/rowan/rowan/NodeCountPinLaw", "bit", "(II)Z"⟩ : MethodName)) hown (mvT hZ (hw _ (List.mem_of_getElem? (i := 4) rfl))) (mvT hZ (hw _ (List.mem_of_getElem? (i := 5) rfl))) (mvT hZ (hw _ (List.mem_of_getElem? (i := 2) rfl))) (mvT hZ (hw _ (List.mem_of_getElem? (i := 6) rfl))) (by decide) (backOf (W := 0) (rm2 l Z aw hw [] p0 (2 : Int32) h10 n0 Zs_10 ) hZ (hw _ (List.mem_of_getElem? (i := 6) rfl)) (hw _ (List.mem_of_getElem? (i := 2) rfl)) (by decide) (by decide)) (g := (mkF m 113 #[.val (.int p0), .val (.int p1), .val n0v, .val n1v, .val n2v, .val n3v, .val n4v, .val n5v, .val n6v, .val (.int (own_bit p0 (0 : Int32))), .val (.int x1), .unset, .unset, .unset, .unset, .unset, .unset] [(.int (2 : Int32)), (.int p0)])) rfl (by rw [hml]; rfl) (argsL := [(.int p0), (.int (2 : Int32))]) (rest := []) (lenOf pd_2 rfl) rfl (by show 2 * 0 + _ ≤ _; exact Nat.le_of_eq rfl) (hb hby at_113) (fun _ _ => ⟨rfl, eJ104_12, (by decide : 21 + 0 ≤ _), (by decide : 63 + 0 ≤ _)⟩)
      dsimp only [Pt.U, Pt.locs, Pt.cells, Pt.slots] at X47 l47 y47 z47 st47 hQ47
      subst l47 y47 z47
      obtain ⟨rfl, Nq47, e47⟩ := hQ47
      have N47 := Fr.app NJ104_12 Nq47
      replace e47 : T47.heap = h10 := e47
      refine own_via st47 ?_
      show OwnEnds p.tables e below _ (T47.setTop (mkF m 116 #[.val (.int p0), .val (.int p1), .val n0v, .val n1v, .val n2v, .val n3v, .val n4v, .val n5v, .val n6v, .val (.int (own_bit p0 (0 : Int32))), .val (.int x1), .unset, .unset, .unset, .unset, .unset, .unset] [(.int (own_bit p0 (2 : Int32)))]))
      by_cases hc116_48 : (own_bit p0 (2 : Int32)) = (0 : Int32)
      · skip
        refine own_via (fun t k => XS.ifYes X47.here hx rfl (pc0 := 116) (pc' := 123) rfl (hb hby at_116) rfl ((if0 _ _).trans (teq hc116_48).1) (by decide) (by decide) k) ?_
        show OwnEnds p.tables e below _ (T47.setTop (mkF m 123 #[.val (.int p0), .val (.int p1), .val n0v, .val n1v, .val n2v, .val n3v, .val n4v, .val n5v, .val n6v, .val (.int (own_bit p0 (0 : Int32))), .val (.int x1), .unset, .unset, .unset, .unset, .unset, .unset] []))
        refine own_via (fun t k => XS.iconst X47.here hx rfl (hb hby at_123) k) ?_
        show OwnEnds p.tables e below _ (T47.setTop (mkF m 124 #[.val (.int p0), .val (.int p1), .val n0v, .val n1v, .val n2v, .val n3v, .val n4v, .val n5v, .val n6v, .val (.int (own_bit p0 (0 : Int32))), .val (.int x1), .unset, .unset, .unset, .unset, .unset, .unset] [(.int (0 : Int32))]))
        exact J124_13 _ _ _ (own_wide X47 (by decide) (by decide)) e47 N47 (by simp only [if_neg hc108_46, if_pos hc116_48])
      · skip
        refine own_via (fun t k => XS.ifNo X47.here hx rfl (hb hby at_116) rfl ((if0 _ _).trans (feq hc116_48).1) k) ?_
        show OwnEnds p.tables e below _ (T47.setTop (mkF m 119 #[.val (.int p0), .val (.int p1), .val n0v, .val n1v, .val n2v, .val n3v, .val n4v, .val n5v, .val n6v, .val (.int (own_bit p0 (0 : Int32))), .val (.int x1), .unset, .unset, .unset, .unset, .unset, .unset] []))
        refine own_via (fun t k => XS.iconst X47.here hx rfl (hb hby at_119) k) ?_
        show OwnEnds p.tables e below _ (T47.setTop (mkF m 120 #[.val (.int p0), .val (.int p1), .val n0v, .val n1v, .val n2v, .val n3v, .val n4v, .val n5v, .val n6v, .val (.int (own_bit p0 (0 : Int32))), .val (.int x1), .unset, .unset, .unset, .unset, .unset, .unset] [(.int (1 : Int32))]))
        refine own_via (fun t k => XS.goto X47.here hx rfl (pc0 := 120) (pc' := 124) rfl (hb hby at_120) (by decide) (by decide) k) ?_
        show OwnEnds p.tables e below _ (T47.setTop (mkF m 124 #[.val (.int p0), .val (.int p1), .val n0v, .val n1v, .val n2v, .val n3v, .val n4v, .val n5v, .val n6v, .val (.int (own_bit p0 (0 : Int32))), .val (.int x1), .unset, .unset, .unset, .unset, .unset, .unset] [(.int (1 : Int32))]))
        exact J124_13 _ _ _ (own_wide X47 (by decide) (by decide)) e47 N47 (by simp only [if_neg hc108_46, if_neg hc116_48])
  by_cases hc88_49 : (own_bit p0 (0 : Int32)) = (0 : Int32)
  · skip
    refine own_via (fun t k => XS.ifYes X11.here hx rfl (pc0 := 88) (pc' := 103) rfl (hb hby at_88) rfl ((if0 _ _).trans (teq hc88_49).1) (by decide) (by decide) k) ?_
    show OwnEnds p.tables e below _ (T11.setTop (mkF m 103 #[.val (.int p0), .val (.int p1), .val n0v, .val n1v, .val n2v, .val n3v, .val n4v, .val n5v, .val n6v, .val (.int (own_bit p0 (0 : Int32))), .unset, .unset, .unset, .unset, .unset, .unset, .unset] []))
    refine own_via (fun t k => XS.iconst X11.here hx rfl (hb hby at_103) k) ?_
    show OwnEnds p.tables e below _ (T11.setTop (mkF m 104 #[.val (.int p0), .val (.int p1), .val n0v, .val n1v, .val n2v, .val n3v, .val n4v, .val n5v, .val n6v, .val (.int (own_bit p0 (0 : Int32))), .unset, .unset, .unset, .unset, .unset, .unset, .unset] [(.int (0 : Int32))]))
    exact J104_12 _ _ _ (own_wide X11 (by decide) (by decide)) e11 N11 (by simp only [if_pos hc88_49])
  · skip
    refine own_via (fun t k => XS.ifNo X11.here hx rfl (hb hby at_88) rfl ((if0 _ _).trans (feq hc88_49).1) k) ?_
    show OwnEnds p.tables e below _ (T11.setTop (mkF m 91 #[.val (.int p0), .val (.int p1), .val n0v, .val n1v, .val n2v, .val n3v, .val n4v, .val n5v, .val n6v, .val (.int (own_bit p0 (0 : Int32))), .unset, .unset, .unset, .unset, .unset, .unset, .unset] []))
    refine own_via (fun t k => XS.iloadN X11.here hx rfl (hb hby at_91) rfl k) ?_
    show OwnEnds p.tables e below _ (T11.setTop (mkF m 92 #[.val (.int p0), .val (.int p1), .val n0v, .val n1v, .val n2v, .val n3v, .val n4v, .val n5v, .val n6v, .val (.int (own_bit p0 (0 : Int32))), .unset, .unset, .unset, .unset, .unset, .unset, .unset] [(.int p0)]))
    refine own_via (fun t k => XS.iconst X11.here hx rfl (hb hby at_92) k) ?_
    show OwnEnds p.tables e below _ (T11.setTop (mkF m 93 #[.val (.int p0), .val (.int p1), .val n0v, .val n1v, .val n2v, .val n3v, .val n4v, .val n5v, .val n6v, .val (.int (own_bit p0 (0 : Int32))), .unset, .unset, .unset, .unset, .unset, .unset, .unset] [(.int (1 : Int32)), (.int p0)]))
    obtain ⟨_, _, ⟨T50, L50, k50, n50⟩, -, X50, ⟨Lc50, hQ50, l50, y50, z50⟩, st50⟩ := Jvm.LawKit.callS X11 hx (y := (⟨"com/example/rowan/rowan/NodeCountPinLaw", "bit", "(II)Z"⟩ : MethodName)) hown (mvT hZ (hw _ (List.mem_of_getElem? (i := 4) rfl))) (mvT hZ (hw _ (List.mem_of_getElem? (i := 5) rfl))) (mvT hZ (hw _ (List.mem_of_getElem? (i := 2) rfl))) (mvT hZ (hw _ (List.mem_of_getElem? (i := 6) rfl))) (by decide) (backOf (W := 0) (rm2 l Z aw hw [] p0 (1 : Int32) h10 n0 Zs_10 ) hZ (hw _ (List.mem_of_getElem? (i := 6) rfl)) (hw _ (List.mem_of_getElem? (i := 2) rfl)) (by decide) (by decide)) (g := (mkF m 93 #[.val (.int p0), .val (.int p1), .val n0v, .val n1v, .val n2v, .val n3v, .val n4v, .val n5v, .val n6v, .val (.int (own_bit p0 (0 : Int32))), .unset, .unset, .unset, .unset, .unset, .unset, .unset] [(.int (1 : Int32)), (.int p0)])) rfl (by rw [hml]; rfl) (argsL := [(.int p0), (.int (1 : Int32))]) (rest := []) (lenOf pd_2 rfl) rfl (by show 2 * 0 + _ ≤ _; exact Nat.le_of_eq rfl) (hb hby at_93) (fun _ _ => ⟨rfl, e11, (by decide : 21 + 0 ≤ _), (by decide : 63 + 0 ≤ _)⟩)
    dsimp only [Pt.U, Pt.locs, Pt.cells, Pt.slots] at X50 l50 y50 z50 st50 hQ50
    subst l50 y50 z50
    obtain ⟨rfl, Nq50, e50⟩ := hQ50
    have N50 := Fr.app N11 Nq50
    replace e50 : T50.heap = h10 := e50
    refine own_via st50 ?_
    show OwnEnds p.tables e below _ (T50.setTop (mkF m 96 #[.val (.int p0), .val (.int p1), .val n0v, .val n1v, .val n2v, .val n3v, .val n4v, .val n5v, .val n6v, .val (.int (own_bit p0 (0 : Int32))), .unset, .unset, .unset, .unset, .unset, .unset, .unset] [(.int (own_bit p0 (1 : Int32)))]))
    by_cases hc96_51 : (own_bit p0 (1 : Int32)) = (0 : Int32)
    · skip
      refine own_via (fun t k => XS.ifYes X50.here hx rfl (pc0 := 96) (pc' := 103) rfl (hb hby at_96) rfl ((if0 _ _).trans (teq hc96_51).1) (by decide) (by decide) k) ?_
      show OwnEnds p.tables e below _ (T50.setTop (mkF m 103 #[.val (.int p0), .val (.int p1), .val n0v, .val n1v, .val n2v, .val n3v, .val n4v, .val n5v, .val n6v, .val (.int (own_bit p0 (0 : Int32))), .unset, .unset, .unset, .unset, .unset, .unset, .unset] []))
      refine own_via (fun t k => XS.iconst X50.here hx rfl (hb hby at_103) k) ?_
      show OwnEnds p.tables e below _ (T50.setTop (mkF m 104 #[.val (.int p0), .val (.int p1), .val n0v, .val n1v, .val n2v, .val n3v, .val n4v, .val n5v, .val n6v, .val (.int (own_bit p0 (0 : Int32))), .unset, .unset, .unset, .unset, .unset, .unset, .unset] [(.int (0 : Int32))]))
      exact J104_12 _ _ _ (own_wide X50 (by decide) (by decide)) e50 N50 (by simp only [if_neg hc88_49, if_pos hc96_51])
    · skip
      refine own_via (fun t k => XS.ifNo X50.here hx rfl (hb hby at_96) rfl ((if0 _ _).trans (feq hc96_51).1) k) ?_
      show OwnEnds p.tables e below _ (T50.setTop (mkF m 99 #[.val (.int p0), .val (.int p1), .val n0v, .val n1v, .val n2v, .val n3v, .val n4v, .val n5v, .val n6v, .val (.int (own_bit p0 (0 : Int32))), .unset, .unset, .unset, .unset, .unset, .unset, .unset] []))
      refine own_via (fun t k => XS.iconst X50.here hx rfl (hb hby at_99) k) ?_
      show OwnEnds p.tables e below _ (T50.setTop (mkF m 100 #[.val (.int p0), .val (.int p1), .val n0v, .val n1v, .val n2v, .val n3v, .val n4v, .val n5v, .val n6v, .val (.int (own_bit p0 (0 : Int32))), .unset, .unset, .unset, .unset, .unset, .unset, .unset] [(.int (1 : Int32))]))
      refine own_via (fun t k => XS.goto X50.here hx rfl (pc0 := 100) (pc' := 104) rfl (hb hby at_100) (by decide) (by decide) k) ?_
      show OwnEnds p.tables e below _ (T50.setTop (mkF m 104 #[.val (.int p0), .val (.int p1), .val n0v, .val n1v, .val n2v, .val n3v, .val n4v, .val n5v, .val n6v, .val (.int (own_bit p0 (0 : Int32))), .unset, .unset, .unset, .unset, .unset, .unset, .unset] [(.int (1 : Int32))]))
      exact J104_12 _ _ _ (own_wide X50 (by decide) (by decide)) e50 N50 (by simp only [if_neg hc88_49, if_neg hc96_51])
theorem own_high {t : Term} {args : Array Value} {s : State} {v : Value} (ht : t.eval args s none [] s = some v) (h : (Jvm.Cond.eq t (Jvm.Term.int 127)).value args s none s [] = some true) : v = .int 127 := by
  obtain ⟨u, w, e1, e2, k1, k2⟩ := cmp_v (Or.inl h)
  have e3 : w = .int 127 := Option.some.inj (e2.symm.trans (Term.int_eval 127))
  subst e3
  obtain ⟨z, rfl⟩ := k2
  have e4 : z = 127 := gotT (Cond.eq_ints e1 e2) h
  rw [ht] at e1; cases e1; rw [e4]
theorem own_ca {t : Term} {args : Array Value} {s : State} {ca : Addr} {cc : Cell} (hf : Fit s) (ht : t.eval args s none [] s = some (.ref ca)) (A : Arr s s.heap ca cc (.object "java/lang/Integer")) (h : (Jvm.Cond.eq (Jvm.Term.length t) (Jvm.Term.int 256)).value args s none s [] = some true) :
    ∃ xs : List Value, AL s s.heap ca (.object "java/lang/Integer") xs ∧ xs.length = 256 ∧ ∀ w ∈ xs, w.isRef = true := by
  obtain ⟨u, w, e1, e2, k1, k2⟩ := cmp_v (Or.inl h)
  have e3 : w = .int 256 := Option.some.inj (e2.symm.trans (Term.int_eval 256))
  subst e3
  obtain ⟨z, rfl⟩ := k2
  have e4 : z = 256 := gotT (Cond.eq_ints e1 e2) h
  subst e4
  have hA := A.fin (Vm.Alike.refl s.vm)
  have hsz : cc.slots.size = 256 := by
    obtain ⟨b, c', f1, f2, f3⟩ := Term.length_spec e1
    rw [ht] at f1; cases f1
    cases hA.symm.trans f2
    have hl := Jvm.Free.SBG.length_lt ht hA e1
    rw [len_f ht hA hl] at e1
    have := congrArg (fun v => match v with | some (Value.int z) => z.toInt | _ => 0) e1
    simp only [len_toInt hl] at this
    exact Int.ofNat.inj this
  refine ⟨cc.slots.toList, ⟨cc, A, rfl, by simp [hsz]⟩, by simp [hsz], fun w hw => ?_⟩
  obtain ⟨i, hi, rfl⟩ := List.getElem_of_mem hw
  have hi' : i < cc.slots.size := by simpa using hi
  obtain ⟨v, hv, hfv⟩ := elem_fit hf A (idx_in (n := cc.slots.size) hi' (by rw [hsz]; decide))
  have e : i.toInt32.toNatClampNeg = i := by simp only [Int32.toNatClampNeg, len_toInt (show i < 2 ^ 31 by omega)]; rfl
  rw [e] at hv
  have : cc.slots.toList[i] = v := by simpa [Array.getElem?_eq_getElem hi'] using hv
  rw [this]; exact fit_R hfv rfl
set_option maxRecDepth 65536 in
set_option maxHeartbeats 40000000 in
theorem comes_1 {Post : Tables → Env → Array Value → State → Outcome → State → Prop} (hpost : ∀ tb e args s v u, (limb_1_1.after args s (.returned v) u = true ∧ limb_1_2.after args s (.returned v) u = true ∧ True) → FrameEnd s (.returned v) u (Jvm.fieldLocs frame_1_writes args s ++ Jvm.arrayLocs frame_1_arrays args s ++ Jvm.staticLocs frame_1_statics s) 56 192 → Post tb e args s (.returned v) u) :
    ArmFor flags0 classFile x code maxLocals ret World_1 tables_1 room_1 Calls_1 rest_1 Pre_1 Post := by
  intro l hfl _ _ p e ha hc hk s m args below hf hA hF happ hP
  obtain ⟨hcalls, hrest, hpre⟩ := hP
  obtain ⟨-, -, -, hnamed, -, -, -, hat⟩ := (Spec.applies_iff hf).mp happ
  obtain ⟨hg, hn⟩ := and_e (Cond.before_iff.mp (show (Jvm.Cond.and given_1 narrow_1).before args s = true from hpre))
  obtain ⟨hq0, hg0⟩ := and_e hg
  obtain ⟨hq1, hg1⟩ := and_e hg0
  obtain ⟨w0, w1, rfl⟩ : ∃ w0 w1 : Value, args = #[w0, w1] := by
    have hs : args.size = 2 := by simpa [Cond.value, given_1] using hq0
    obtain ⟨L⟩ := args
    match L, hs with
    | [w0, w1], _ => exact ⟨w0, w1, rfl⟩
  have hw := fun d (hd : d ∈ tables_1) => atoms_spec (ws := Jvm.Cond.code x code maxLocals ret :: tables_1) hat d (List.mem_cons_of_mem _ hd)
  have hfit : Fit s := fun {y c} hc i hi => by
    obtain ⟨ha, rfl⟩ := Array.getElem?_eq_some_iff.mp hc
    have q := List.all_eq_true.mp ((Array.all_eq_true_iff_forall_mem.mp hF) _ (Array.getElem_mem ha)) i (List.mem_range.mpr hi)
    simpa [Array.getElem?_eq_getElem hi] using q
  obtain ⟨hsets, hown0⟩ := atoms_of _ (rest_1_c_eq ▸ (show rest_1_c.before _ s = true from hrest))
  obtain ⟨i0, ei0⟩ := is_v hq1
  obtain rfl : w0 = (.int i0) := Option.some.inj ei0
  obtain ⟨i1, ei1⟩ := is_v hg1
  obtain rfl : w1 = (.int i1) := Option.some.inj ei1
  obtain ⟨ca, eca⟩ := arr_v (Cond.before_iff.mp (hsets _ (List.mem_of_getElem? (i := 4) rfl)))
  have S_cache : Sta s s.heap "java/lang/Integer$IntegerCache" "cache" "[Ljava/lang/Integer;" (.ref ca) := Sta.start eca (Or.inr ⟨(hw _ (List.mem_of_getElem? (i := 21) rfl)), (hsets _ (List.mem_of_getElem? (i := 2) rfl))⟩)
  obtain ⟨vh, eh, -⟩ := static_fit hfit (hsets _ (List.mem_of_getElem? (i := 0) rfl)) (ty := .int) (by decide)
  obtain rfl : vh = .int 127 := own_high eh (Cond.before_iff.mp (hsets _ (List.mem_of_getElem? (i := 3) rfl)))
  have S_high : Sta s s.heap "java/lang/Integer$IntegerCache" "high" "I" (.int 127) := Sta.start eh (Or.inl (hsets _ (List.mem_of_getElem? (i := 1) rfl)))
  obtain ⟨cc, Acc⟩ := Arr.start eca (Cond.before_iff.mp (hsets _ (List.mem_of_getElem? (i := 4) rfl)))
  obtain ⟨cx, A_ca, hcl, hcr⟩ := own_ca hfit eca Acc (Cond.before_iff.mp (hsets _ (List.mem_of_getElem? (i := 6) rfl)))
  obtain ⟨n, o, h1, h2, h3, _, L, rfl, ⟨rfl, N⟩, hq⟩ := rm0 l s _ hw tables_1 i0 i1 ca cx s.heap s.heap.size (Nat.le_refl _) S_high S_cache A_ca hcl hcr (Old.start s) p e ha hc hk s m _ below hf ((Spec.applies_iff_loose hf).mp happ).1 ⟨rfl, State.Warmed39.refl s, rfl⟩ trivial
  refine ⟨n, _, h1, h2, h3, hpost _ _ _ _ _ _ ⟨Cond.after_iff.mpr rfl, Cond.after_iff.mpr (eq_i res_at (Term.int_eval (1)) rfl), trivial⟩ ⟨hq.1, hq.2.1, (hq.2.2.sift fun y hy => Or.inr (N y hy)).mono (by decide) (by decide)⟩⟩
theorem main_1_1 : Claimed_1_1 := comes_1 fun _ _ _ _ _ _ h hF => ⟨h.1, hF⟩
theorem main_1_2 : Claimed_1_2 := comes_1 fun _ _ _ _ _ _ h hF => ⟨h.2.1, hF⟩
end Jvm.Pilot.@@N@@
namespace Jvm.Pilot.@@N@@
open Jvm Jvm.ClassFile Sem Op Lib Jvm.Free Jvm.Stand Jvm.Pilot.@@N@@.Jvm.D
/-! MADE BY PROGRAM (witnessworld.py) out of the Statement's table words and the real class files: 17 classes; the members and pool entries that the words name. The judged class is class 1, her method 4. -/
namespace start1
open Jvm.ClassFile
def u (s : String) : CpInfo := .utf8 (stringToUtf16 s)
/-- a pool by its gaps: so many unusable entries, then the entry; so many at the end -/
def gap : Nat → List CpInfo → List CpInfo
  | 0, r => r
  | n + 1, r => .unusable :: gap n r
def poolList (es : List (Nat × CpInfo)) (last : Nat) : List CpInfo := es.foldr (fun e r => gap e.1 (e.2 :: r)) (gap last [])
def pool (es : List (Nat × CpInfo)) (last : Nat) : Array CpInfo := ⟨poolList es last⟩
def fileOf (pool : Array CpInfo) (this : Nat) (attrs : Array Attribute := #[]) (ms : Array MethodInfo := #[]) (fl : Nat := 33) (sup : Nat := 0) (ifs : Array Nat := #[]) (fds : Array FieldInfo := #[]) : ClassFile where
  minorVersion := 0
  majorVersion := 65
  constantPool := pool
  accessFlags := fl
  thisClass := this
  superClass := sup
  interfaces := ifs
  fields := fds
  methods := ms
  attributes := attrs
def plain (name : String) (sup : Option ClassId) : Class where
  name := name
  kind := .ordinary
  loader := none
  accessFlags := 33
  super := sup
  interfaces := #[]
  cf := none
  fields := #[]
  methods := #[]
  instanceTypes := #[]
  staticTypes := #[]
  resolved := #[]
  callSites := []
  init := .initialized
  statics := none
  mirror := none

def pool0 : Array CpInfo := pool [(5, u "<init>"), (0, u "()V"), (1, .class_ 10), (1, u "java/lang/Object")] 113

def k0c0 : Code := { maxStack := 0, maxLocals := 1, code := object_method_1_code, exceptionTable := #[], attributes := #[] }
def k0m0 : Method := { name := "<init>", desc := "()V", sig := { parameters := [], returnType := none }, accessFlags := 1, code := some k0c0 }
/-- java/lang/Object -/
def k0 : Class := { plain "java/lang/Object" none with
  accessFlags := 33
  interfaces := #[]
  cf := some (fileOf pool0 8 #[] #[{ accessFlags := 1, nameIndex := 5, descriptorIndex := 6, attributes := #[] }] 33 0 #[] #[])
  fields := #[]
  methods := #[k0m0]
  instanceTypes := #[]
  staticTypes := #[]
  resolved := Array.replicate 124 none
  statics := none }

def pool1 : Array CpInfo := pool [(2, .class_ 4), (1, u "java/lang/Object"), (0, u "<init>"), (0, u "()V"), (0, .methodref 8 9), (0, .class_ 10), (0, .nameAndType 11 12), (0, u "com/example/rowan/rowan/NodeCountPinLaw"), (0, u "bit"), (0, u "(II)Z"), (0, .class_ 14), (0, u "com/example/rowan/rowan/Node"), (0, .methodref 16 17), (0, .class_ 18), (0, .nameAndType 19 20), (0, u "java/lang/Integer"), (0, u "valueOf"), (0, u "(I)Ljava/lang/Integer;"), (0, .methodref 13 22), (0, .nameAndType 5 23), (0, u "(Ljava/lang/Object;Ljava/lang/Object;)V"), (0, .fieldref 13 25), (0, .nameAndType 26 27), (0, u "red"), (0, u "Z"), (0, .fieldref 13 29), (0, .nameAndType 30 31), (0, u "left"), (0, u "Lcom/example/rowan/rowan/Node;"), (0, .fieldref 13 33), (0, .nameAndType 34 31), (0, u "right"), (0, .methodref 8 36), (0, .nameAndType 37 38), (0, u "mk"), (0, u "(III)Lcom/example/rowan/rowan/Node;"), (0, .methodref 8 40), (0, .nameAndType 41 42), (0, u "link"), (0, u "(Lcom/example/rowan/rowan/Node;Lcom/example/rowan/rowan/Node;Lcom/example/rowan/rowan/Node;)V"), (0, .methodref 13 44), (0, .nameAndType 45 46), (0, u "count"), (0, u "(Lcom/example/rowan/rowan/Node;)I"), (6, u "law")] 2

def k1m0 : Method := { name := "<init>", desc := "()V", sig := { parameters := [], returnType := none }, accessFlags := 1, code := none }
def k1c1 : Code := { maxStack := 2, maxLocals := 2, code := method_2_code, exceptionTable := #[], attributes := #[] }
def k1m1 : Method := { name := "bit", desc := "(II)Z", sig := { parameters := [.int, .int], returnType := some .boolean }, accessFlags := 10, code := some k1c1 }
def k1c2 : Code := { maxStack := 4, maxLocals := 4, code := method_3_code, exceptionTable := #[], attributes := #[] }
def k1m2 : Method := { name := "mk", desc := "(III)Lcom/example/rowan/rowan/Node;", sig := { parameters := [.int, .int, .int], returnType := some (.object "com/example/rowan/rowan/Node") }, accessFlags := 10, code := some k1c2 }
def k1c3 : Code := { maxStack := 2, maxLocals := 3, code := method_4_code, exceptionTable := #[], attributes := #[] }
def k1m3 : Method := { name := "link", desc := "(Lcom/example/rowan/rowan/Node;Lcom/example/rowan/rowan/Node;Lcom/example/rowan/rowan/Node;)V", sig := { parameters := [(.object "com/example/rowan/rowan/Node"), (.object "com/example/rowan/rowan/Node"), (.object "com/example/rowan/rowan/Node")], returnType := none }, accessFlags := 10, code := some k1c3 }
def k1c4 : Code := { maxStack := 3, maxLocals := 17, code := code, exceptionTable := #[], attributes := #[] }
def k1m4 : Method := { name := "law", desc := "(II)Z", sig := { parameters := [.int, .int], returnType := some .boolean }, accessFlags := 9, code := some k1c4 }
/-- com/example/rowan/rowan/NodeCountPinLaw -/
def k1 : Class := { plain "com/example/rowan/rowan/NodeCountPinLaw" (some 0) with
  accessFlags := 49
  interfaces := #[]
  cf := some (fileOf pool1 8 #[] #[{ accessFlags := 1, nameIndex := 5, descriptorIndex := 6, attributes := #[] }, { accessFlags := 10, nameIndex := 11, descriptorIndex := 12, attributes := #[] }, { accessFlags := 10, nameIndex := 37, descriptorIndex := 38, attributes := #[] }, { accessFlags := 10, nameIndex := 41, descriptorIndex := 42, attributes := #[] }, { accessFlags := 9, nameIndex := 53, descriptorIndex := 12, attributes := #[] }] 49 2 #[] #[])
  fields := #[]
  methods := #[k1m0, k1m1, k1m2, k1m3, k1m4]
  instanceTypes := #[]
  staticTypes := #[]
  resolved := Array.replicate 56 none
  statics := none }

def pool2 : Array CpInfo := pool [(1, .class_ 2), (0, u "com/example/rowan/rowan/NodeView"), (0, .class_ 4), (0, u "java/lang/Object")] 15

/-- com/example/rowan/rowan/NodeView -/
def k2 : Class := { plain "com/example/rowan/rowan/NodeView" (some 0) with
  accessFlags := 1537
  interfaces := #[]
  cf := some (fileOf pool2 1 #[] #[] 1537 3 #[] #[])
  fields := #[]
  methods := #[]
  instanceTypes := #[]
  staticTypes := #[]
  resolved := Array.replicate 20 none
  statics := none }

def pool3 : Array CpInfo := pool [(1, .methodref 2 3), (0, .class_ 4), (0, .nameAndType 5 6), (0, u "java/lang/Object"), (0, u "<init>"), (0, u "()V"), (0, .fieldref 8 9), (0, .class_ 10), (0, .nameAndType 11 12), (0, u "com/example/rowan/rowan/Node"), (0, u "key"), (0, u "Ljava/lang/Object;"), (0, .fieldref 8 14), (0, .nameAndType 15 12), (0, u "value"), (0, .fieldref 8 17), (0, .nameAndType 18 19), (0, u "red"), (0, u "Z"), (0, .fieldref 8 21), (0, .nameAndType 22 23), (0, u "left"), (0, u "Lcom/example/rowan/rowan/Node;"), (0, .fieldref 8 25), (0, .nameAndType 26 23), (0, u "right"), (10, u "(Ljava/lang/Object;Ljava/lang/Object;)V"), (2, u "holdsShared"), (6, u "shared"), (4, .methodref 8 53), (0, .nameAndType 54 55), (0, u "count"), (0, u "(Lcom/example/rowan/rowan/Node;)I"), (46, .class_ 103), (0, u "com/example/rowan/rowan/NodeView")] 34

def k3c0 : Code := { maxStack := 2, maxLocals := 3, code := prog_16_method_1_code, exceptionTable := #[], attributes := #[] }
def k3m0 : Method := { name := "<init>", desc := "(Ljava/lang/Object;Ljava/lang/Object;)V", sig := { parameters := [(.object "java/lang/Object"), (.object "java/lang/Object")], returnType := none }, accessFlags := 0, code := some k3c0 }
def k3c1 : Code := { maxStack := 2, maxLocals := 2, code := prog_16_method_15_code, exceptionTable := #[], attributes := #[] }
def k3m1 : Method := { name := "count", desc := "(Lcom/example/rowan/rowan/Node;)I", sig := { parameters := [(.object "com/example/rowan/rowan/Node")], returnType := some .int }, accessFlags := 8, code := some k3c1 }
/-- com/example/rowan/rowan/Node -/
def k3 : Class := { plain "com/example/rowan/rowan/Node" (some 0) with
  accessFlags := 32
  interfaces := #[2]
  cf := some (fileOf pool3 8 #[] #[{ accessFlags := 0, nameIndex := 5, descriptorIndex := 37, attributes := #[] }, { accessFlags := 8, nameIndex := 54, descriptorIndex := 55, attributes := #[] }] 32 2 #[102] #[{ accessFlags := 0, nameIndex := 11, descriptorIndex := 12, attributes := #[] }, { accessFlags := 0, nameIndex := 15, descriptorIndex := 12, attributes := #[] }, { accessFlags := 0, nameIndex := 22, descriptorIndex := 23, attributes := #[] }, { accessFlags := 0, nameIndex := 26, descriptorIndex := 23, attributes := #[] }, { accessFlags := 0, nameIndex := 18, descriptorIndex := 19, attributes := #[] }, { accessFlags := 0, nameIndex := 47, descriptorIndex := 19, attributes := #[] }, { accessFlags := 0, nameIndex := 40, descriptorIndex := 19, attributes := #[] }])
  fields := #[{ name := "key", type := (.object "java/lang/Object"), accessFlags := 0, slot := 0, constantValue := 0 }, { name := "value", type := (.object "java/lang/Object"), accessFlags := 0, slot := 1, constantValue := 0 }, { name := "left", type := (.object "com/example/rowan/rowan/Node"), accessFlags := 0, slot := 2, constantValue := 0 }, { name := "right", type := (.object "com/example/rowan/rowan/Node"), accessFlags := 0, slot := 3, constantValue := 0 }, { name := "red", type := .boolean, accessFlags := 0, slot := 4, constantValue := 0 }, { name := "shared", type := .boolean, accessFlags := 0, slot := 5, constantValue := 0 }, { name := "holdsShared", type := .boolean, accessFlags := 0, slot := 6, constantValue := 0 }]
  methods := #[k3m0, k3m1]
  instanceTypes := #[(.object "java/lang/Object"), (.object "java/lang/Object"), (.object "com/example/rowan/rowan/Node"), (.object "com/example/rowan/rowan/Node"), .boolean, .boolean, .boolean]
  staticTypes := #[]
  resolved := Array.replicate 138 none
  statics := none }

def pool4 : Array CpInfo := pool [(1, .class_ 2), (0, u "java/io/Serializable"), (0, .class_ 4), (0, u "java/lang/Object")] 2

/-- java/io/Serializable -/
def k4 : Class := { plain "java/io/Serializable" (some 0) with
  accessFlags := 1537
  interfaces := #[]
  cf := some (fileOf pool4 1 #[] #[] 1537 3 #[] #[])
  fields := #[]
  methods := #[]
  instanceTypes := #[]
  staticTypes := #[]
  resolved := Array.replicate 7 none
  statics := none }

def pool5 : Array CpInfo := pool [(1, .methodref 2 3), (0, .class_ 4), (0, .nameAndType 5 6), (0, u "java/lang/Object"), (0, u "<init>"), (0, u "()V"), (1, .class_ 10), (1, u "java/lang/Number"), (2, .class_ 14), (0, u "java/io/Serializable"), (0, u "serialVersionUID"), (0, u "J")] 20

def k5c0 : Code := { maxStack := 1, maxLocals := 1, code := jdk_18_method_1_code, exceptionTable := #[], attributes := #[] }
def k5m0 : Method := { name := "<init>", desc := "()V", sig := { parameters := [], returnType := none }, accessFlags := 1, code := some k5c0 }
/-- java/lang/Number -/
def k5 : Class := { plain "java/lang/Number" (some 0) with
  accessFlags := 1057
  interfaces := #[4]
  cf := some (fileOf pool5 8 #[] #[{ accessFlags := 1, nameIndex := 5, descriptorIndex := 6, attributes := #[] }] 1057 2 #[13] #[{ accessFlags := 26, nameIndex := 15, descriptorIndex := 16, attributes := #[] }])
  fields := #[{ name := "serialVersionUID", type := .long, accessFlags := 26, slot := 0, constantValue := 0 }]
  methods := #[k5m0]
  instanceTypes := #[]
  staticTypes := #[.long]
  resolved := Array.replicate 37 none
  statics := none }

def pool6 : Array CpInfo := pool [(1, .class_ 2), (0, u "java/lang/Comparable"), (0, .class_ 4), (0, u "java/lang/Object")] 7

/-- java/lang/Comparable -/
def k6 : Class := { plain "java/lang/Comparable" (some 0) with
  accessFlags := 1537
  interfaces := #[]
  cf := some (fileOf pool6 1 #[] #[] 1537 3 #[] #[])
  fields := #[]
  methods := #[]
  instanceTypes := #[]
  staticTypes := #[]
  resolved := Array.replicate 12 none
  statics := none }

def pool7 : Array CpInfo := pool [(1, .class_ 2), (0, u "java/lang/constant/Constable"), (0, .class_ 4), (0, u "java/lang/Object")] 6

/-- java/lang/constant/Constable -/
def k7 : Class := { plain "java/lang/constant/Constable" (some 0) with
  accessFlags := 1537
  interfaces := #[]
  cf := some (fileOf pool7 1 #[] #[] 1537 3 #[] #[])
  fields := #[]
  methods := #[]
  instanceTypes := #[]
  staticTypes := #[]
  resolved := Array.replicate 11 none
  statics := none }

def pool8 : Array CpInfo := pool [(1, .class_ 2), (0, u "java/lang/constant/ConstantDesc"), (0, .class_ 4), (0, u "java/lang/Object")] 32

/-- java/lang/constant/ConstantDesc -/
def k8 : Class := { plain "java/lang/constant/ConstantDesc" (some 0) with
  accessFlags := 1537
  interfaces := #[]
  cf := some (fileOf pool8 1 #[] #[] 1537 3 #[] #[])
  fields := #[]
  methods := #[]
  instanceTypes := #[]
  staticTypes := #[]
  resolved := Array.replicate 37 none
  statics := none }

def pool9 : Array CpInfo := pool [(1, .class_ 2), (0, u "java/lang/Integer"), (16, u "digits"), (0, u "[C"), (46, u "<init>"), (17, u "DigitOnes"), (0, u "[B"), (2, u "DigitTens"), (10, .nameAndType 67 101), (0, u "()V"), (85, u "valueOf"), (0, u "(I)Ljava/lang/Integer;"), (0, .class_ 190), (0, u "java/lang/Integer$IntegerCache"), (0, .fieldref 189 192), (0, .nameAndType 193 194), (0, u "high"), (0, u "I"), (0, .fieldref 189 196), (0, .nameAndType 197 198), (0, u "cache"), (0, u "[Ljava/lang/Integer;"), (0, .methodref 1 200), (0, .nameAndType 67 201), (0, u "(I)V"), (0, .methodref 203 100), (0, .class_ 204), (0, u "java/lang/Number"), (0, .fieldref 1 206), (0, .nameAndType 207 194), (0, u "value"), (94, u "TYPE"), (0, u "Ljava/lang/Class;"), (0, .class_ 305), (0, u "java/lang/Comparable"), (0, .class_ 307), (0, u "java/lang/constant/Constable"), (0, .class_ 309), (0, u "java/lang/constant/ConstantDesc"), (0, u "MIN_VALUE"), (1, u "MAX_VALUE"), (3, u "SIZE"), (1, u "BYTES"), (1, u "serialVersionUID"), (0, u "J")] 131

def k9c0 : Code := { maxStack := 3, maxLocals := 1, code := jdk_33_method_22_code, exceptionTable := #[], attributes := #[] }
def k9m0 : Method := { name := "valueOf", desc := "(I)Ljava/lang/Integer;", sig := { parameters := [.int], returnType := some (.object "java/lang/Integer") }, accessFlags := 9, code := some k9c0 }
def k9c1 : Code := { maxStack := 2, maxLocals := 2, code := jdk_33_method_23_code, exceptionTable := #[], attributes := #[] }
def k9m1 : Method := { name := "<init>", desc := "(I)V", sig := { parameters := [.int], returnType := none }, accessFlags := 1, code := some k9c1 }
/-- java/lang/Integer -/
def k9 : Class := { plain "java/lang/Integer" (some 5) with
  accessFlags := 49
  interfaces := #[6, 7, 8]
  cf := some (fileOf pool9 1 #[.nestMembers #[189]] #[{ accessFlags := 9, nameIndex := 187, descriptorIndex := 188, attributes := #[] }, { accessFlags := 1, nameIndex := 67, descriptorIndex := 201, attributes := #[] }] 49 203 #[304, 306, 308] #[{ accessFlags := 25, nameIndex := 310, descriptorIndex := 194, attributes := #[] }, { accessFlags := 25, nameIndex := 312, descriptorIndex := 194, attributes := #[] }, { accessFlags := 25, nameIndex := 302, descriptorIndex := 303, attributes := #[] }, { accessFlags := 24, nameIndex := 19, descriptorIndex := 20, attributes := #[] }, { accessFlags := 24, nameIndex := 89, descriptorIndex := 86, attributes := #[] }, { accessFlags := 24, nameIndex := 85, descriptorIndex := 86, attributes := #[] }, { accessFlags := 18, nameIndex := 207, descriptorIndex := 194, attributes := #[] }, { accessFlags := 25, nameIndex := 316, descriptorIndex := 194, attributes := #[] }, { accessFlags := 25, nameIndex := 318, descriptorIndex := 194, attributes := #[] }, { accessFlags := 26, nameIndex := 320, descriptorIndex := 321, attributes := #[] }])
  fields := #[{ name := "MIN_VALUE", type := .int, accessFlags := 25, slot := 0, constantValue := 0 }, { name := "MAX_VALUE", type := .int, accessFlags := 25, slot := 1, constantValue := 0 }, { name := "TYPE", type := (.object "java/lang/Class"), accessFlags := 25, slot := 2, constantValue := 0 }, { name := "digits", type := (.array .char), accessFlags := 24, slot := 3, constantValue := 0 }, { name := "DigitTens", type := (.array .byte), accessFlags := 24, slot := 4, constantValue := 0 }, { name := "DigitOnes", type := (.array .byte), accessFlags := 24, slot := 5, constantValue := 0 }, { name := "value", type := .int, accessFlags := 18, slot := 0, constantValue := 0 }, { name := "SIZE", type := .int, accessFlags := 25, slot := 6, constantValue := 0 }, { name := "BYTES", type := .int, accessFlags := 25, slot := 7, constantValue := 0 }, { name := "serialVersionUID", type := .long, accessFlags := 26, slot := 8, constantValue := 0 }]
  methods := #[k9m0, k9m1]
  instanceTypes := #[.int]
  staticTypes := #[.int, .int, (.object "java/lang/Class"), (.array .char), (.array .byte), (.array .byte), .int, .int, .long]
  resolved := Array.replicate 453 none
  statics := none }

def pool10 : Array CpInfo := pool [(2, .class_ 4), (1, u "java/lang/Object"), (0, u "<init>"), (0, u "()V"), (0, .class_ 8), (0, u "java/lang/Integer"), (7, .class_ 18), (1, u "java/lang/Integer$IntegerCache"), (0, u "$assertionsDisabled"), (0, u "Z"), (26, u "high"), (0, u "I"), (8, u "archivedCache"), (0, u "[Ljava/lang/Integer;"), (12, u "cache"), (0, u "low")] 27

def k10m0 : Method := { name := "<init>", desc := "()V", sig := { parameters := [], returnType := none }, accessFlags := 2, code := none }
/-- java/lang/Integer$IntegerCache -/
def k10 : Class := { plain "java/lang/Integer$IntegerCache" (some 0) with
  accessFlags := 48
  interfaces := #[]
  cf := some (fileOf pool10 16 #[.nestHost 7] #[{ accessFlags := 2, nameIndex := 5, descriptorIndex := 6, attributes := #[] }] 48 2 #[] #[{ accessFlags := 24, nameIndex := 72, descriptorIndex := 48, attributes := #[] }, { accessFlags := 24, nameIndex := 47, descriptorIndex := 48, attributes := #[] }, { accessFlags := 24, nameIndex := 71, descriptorIndex := 58, attributes := #[] }, { accessFlags := 8, nameIndex := 57, descriptorIndex := 58, attributes := #[] }, { accessFlags := 4120, nameIndex := 19, descriptorIndex := 20, attributes := #[] }])
  fields := #[{ name := "low", type := .int, accessFlags := 24, slot := 0, constantValue := 0 }, { name := "high", type := .int, accessFlags := 24, slot := 1, constantValue := 0 }, { name := "cache", type := (.array (.object "java/lang/Integer")), accessFlags := 24, slot := 2, constantValue := 0 }, { name := "archivedCache", type := (.array (.object "java/lang/Integer")), accessFlags := 8, slot := 3, constantValue := 0 }, { name := "$assertionsDisabled", type := .boolean, accessFlags := 4120, slot := 4, constantValue := 0 }]
  methods := #[k10m0]
  instanceTypes := #[]
  staticTypes := #[.int, .int, (.array (.object "java/lang/Integer")), (.array (.object "java/lang/Integer")), .boolean]
  resolved := Array.replicate 100 none
  statics := some 0 }

def pool11 : Array CpInfo := pool [(1, u "java/lang/Cloneable"), (0, .class_ 1), (0, u "java/lang/Object"), (0, .class_ 3)] 3

/-- java/lang/Cloneable -/
def k11 : Class := { plain "java/lang/Cloneable" (some 0) with
  accessFlags := 1537
  interfaces := #[]
  cf := some (fileOf pool11 2 #[] #[] 1537 4 #[] #[])
  fields := #[]
  methods := #[]
  instanceTypes := #[]
  staticTypes := #[]
  resolved := Array.replicate 8 none
  statics := none }

/-- the primitive byte -/
def k12 : Class := { plain "byte" none with kind := .primitive 'B', accessFlags := 0x411 }
/-- [B -/
def k13 : Class := { plain "[B" (some 0) with kind := .array 12 .byte, interfaces := #[11, 4], accessFlags := 1041 }

/-- the primitive int -/
def k14 : Class := { plain "int" none with kind := .primitive 'I', accessFlags := 0x411 }
/-- [I -/
def k15 : Class := { plain "[I" (some 0) with kind := .array 14 .int, interfaces := #[11, 4], accessFlags := 1041 }

/-- [Ljava/lang/Integer; -/
def k16 : Class := { plain "[Ljava/lang/Integer;" (some 0) with kind := .array 9 (.object "java/lang/Integer"), interfaces := #[11, 4], accessFlags := 1041 }

def heap : Heap := #[{ cls := 10, slots := #[.int 0, .int 127, .ref 1, .null, .int 0], vm := .statics 10 },
  { cls := 16, slots := #[.ref 2, .ref 3, .ref 4, .ref 5, .ref 6, .ref 7, .ref 8, .ref 9, .ref 10, .ref 11, .ref 12, .ref 13, .ref 14, .ref 15, .ref 16, .ref 17, .ref 18, .ref 19, .ref 20, .ref 21, .ref 22, .ref 23, .ref 24, .ref 25, .ref 26, .ref 27, .ref 28, .ref 29, .ref 30, .ref 31, .ref 32, .ref 33, .ref 34, .ref 35, .ref 36, .ref 37, .ref 38, .ref 39, .ref 40, .ref 41, .ref 42, .ref 43, .ref 44, .ref 45, .ref 46, .ref 47, .ref 48, .ref 49, .ref 50, .ref 51, .ref 52, .ref 53, .ref 54, .ref 55, .ref 56, .ref 57, .ref 58, .ref 59, .ref 60, .ref 61, .ref 62, .ref 63, .ref 64, .ref 65, .ref 66, .ref 67, .ref 68, .ref 69, .ref 70, .ref 71, .ref 72, .ref 73, .ref 74, .ref 75, .ref 76, .ref 77, .ref 78, .ref 79, .ref 80, .ref 81, .ref 82, .ref 83, .ref 84, .ref 85, .ref 86, .ref 87, .ref 88, .ref 89, .ref 90, .ref 91, .ref 92, .ref 93, .ref 94, .ref 95, .ref 96, .ref 97, .ref 98, .ref 99, .ref 100, .ref 101, .ref 102, .ref 103, .ref 104, .ref 105, .ref 106, .ref 107, .ref 108, .ref 109, .ref 110, .ref 111, .ref 112, .ref 113, .ref 114, .ref 115, .ref 116, .ref 117, .ref 118, .ref 119, .ref 120, .ref 121, .ref 122, .ref 123, .ref 124, .ref 125, .ref 126, .ref 127, .ref 128, .ref 129, .ref 130, .ref 131, .ref 132, .ref 133, .ref 134, .ref 135, .ref 136, .ref 137, .ref 138, .ref 139, .ref 140, .ref 141, .ref 142, .ref 143, .ref 144, .ref 145, .ref 146, .ref 147, .ref 148, .ref 149, .ref 150, .ref 151, .ref 152, .ref 153, .ref 154, .ref 155, .ref 156, .ref 157, .ref 158, .ref 159, .ref 160, .ref 161, .ref 162, .ref 163, .ref 164, .ref 165, .ref 166, .ref 167, .ref 168, .ref 169, .ref 170, .ref 171, .ref 172, .ref 173, .ref 174, .ref 175, .ref 176, .ref 177, .ref 178, .ref 179, .ref 180, .ref 181, .ref 182, .ref 183, .ref 184, .ref 185, .ref 186, .ref 187, .ref 188, .ref 189, .ref 190, .ref 191, .ref 192, .ref 193, .ref 194, .ref 195, .ref 196, .ref 197, .ref 198, .ref 199, .ref 200, .ref 201, .ref 202, .ref 203, .ref 204, .ref 205, .ref 206, .ref 207, .ref 208, .ref 209, .ref 210, .ref 211, .ref 212, .ref 213, .ref 214, .ref 215, .ref 216, .ref 217, .ref 218, .ref 219, .ref 220, .ref 221, .ref 222, .ref 223, .ref 224, .ref 225, .ref 226, .ref 227, .ref 228, .ref 229, .ref 230, .ref 231, .ref 232, .ref 233, .ref 234, .ref 235, .ref 236, .ref 237, .ref 238, .ref 239, .ref 240, .ref 241, .ref 242, .ref 243, .ref 244, .ref 245, .ref 246, .ref 247, .ref 248, .ref 249, .ref 250, .ref 251, .ref 252, .ref 253, .ref 254, .ref 255, .ref 256, .ref 257], vm := .none },
  { cls := 9, slots := #[.int (-128)], vm := .none },
  { cls := 9, slots := #[.int (-127)], vm := .none },
  { cls := 9, slots := #[.int (-126)], vm := .none },
  { cls := 9, slots := #[.int (-125)], vm := .none },
  { cls := 9, slots := #[.int (-124)], vm := .none },
  { cls := 9, slots := #[.int (-123)], vm := .none },
  { cls := 9, slots := #[.int (-122)], vm := .none },
  { cls := 9, slots := #[.int (-121)], vm := .none },
  { cls := 9, slots := #[.int (-120)], vm := .none },
  { cls := 9, slots := #[.int (-119)], vm := .none },
  { cls := 9, slots := #[.int (-118)], vm := .none },
  { cls := 9, slots := #[.int (-117)], vm := .none },
  { cls := 9, slots := #[.int (-116)], vm := .none },
  { cls := 9, slots := #[.int (-115)], vm := .none },
  { cls := 9, slots := #[.int (-114)], vm := .none },
  { cls := 9, slots := #[.int (-113)], vm := .none },
  { cls := 9, slots := #[.int (-112)], vm := .none },
  { cls := 9, slots := #[.int (-111)], vm := .none },
  { cls := 9, slots := #[.int (-110)], vm := .none },
  { cls := 9, slots := #[.int (-109)], vm := .none },
  { cls := 9, slots := #[.int (-108)], vm := .none },
  { cls := 9, slots := #[.int (-107)], vm := .none },
  { cls := 9, slots := #[.int (-106)], vm := .none },
  { cls := 9, slots := #[.int (-105)], vm := .none },
  { cls := 9, slots := #[.int (-104)], vm := .none },
  { cls := 9, slots := #[.int (-103)], vm := .none },
  { cls := 9, slots := #[.int (-102)], vm := .none },
  { cls := 9, slots := #[.int (-101)], vm := .none },
  { cls := 9, slots := #[.int (-100)], vm := .none },
  { cls := 9, slots := #[.int (-99)], vm := .none },
  { cls := 9, slots := #[.int (-98)], vm := .none },
  { cls := 9, slots := #[.int (-97)], vm := .none },
  { cls := 9, slots := #[.int (-96)], vm := .none },
  { cls := 9, slots := #[.int (-95)], vm := .none },
  { cls := 9, slots := #[.int (-94)], vm := .none },
  { cls := 9, slots := #[.int (-93)], vm := .none },
  { cls := 9, slots := #[.int (-92)], vm := .none },
  { cls := 9, slots := #[.int (-91)], vm := .none },
  { cls := 9, slots := #[.int (-90)], vm := .none },
  { cls := 9, slots := #[.int (-89)], vm := .none },
  { cls := 9, slots := #[.int (-88)], vm := .none },
  { cls := 9, slots := #[.int (-87)], vm := .none },
  { cls := 9, slots := #[.int (-86)], vm := .none },
  { cls := 9, slots := #[.int (-85)], vm := .none },
  { cls := 9, slots := #[.int (-84)], vm := .none },
  { cls := 9, slots := #[.int (-83)], vm := .none },
  { cls := 9, slots := #[.int (-82)], vm := .none },
  { cls := 9, slots := #[.int (-81)], vm := .none },
  { cls := 9, slots := #[.int (-80)], vm := .none },
  { cls := 9, slots := #[.int (-79)], vm := .none },
  { cls := 9, slots := #[.int (-78)], vm := .none },
  { cls := 9, slots := #[.int (-77)], vm := .none },
  { cls := 9, slots := #[.int (-76)], vm := .none },
  { cls := 9, slots := #[.int (-75)], vm := .none },
  { cls := 9, slots := #[.int (-74)], vm := .none },
  { cls := 9, slots := #[.int (-73)], vm := .none },
  { cls := 9, slots := #[.int (-72)], vm := .none },
  { cls := 9, slots := #[.int (-71)], vm := .none },
  { cls := 9, slots := #[.int (-70)], vm := .none },
  { cls := 9, slots := #[.int (-69)], vm := .none },
  { cls := 9, slots := #[.int (-68)], vm := .none },
  { cls := 9, slots := #[.int (-67)], vm := .none },
  { cls := 9, slots := #[.int (-66)], vm := .none },
  { cls := 9, slots := #[.int (-65)], vm := .none },
  { cls := 9, slots := #[.int (-64)], vm := .none },
  { cls := 9, slots := #[.int (-63)], vm := .none },
  { cls := 9, slots := #[.int (-62)], vm := .none },
  { cls := 9, slots := #[.int (-61)], vm := .none },
  { cls := 9, slots := #[.int (-60)], vm := .none },
  { cls := 9, slots := #[.int (-59)], vm := .none },
  { cls := 9, slots := #[.int (-58)], vm := .none },
  { cls := 9, slots := #[.int (-57)], vm := .none },
  { cls := 9, slots := #[.int (-56)], vm := .none },
  { cls := 9, slots := #[.int (-55)], vm := .none },
  { cls := 9, slots := #[.int (-54)], vm := .none },
  { cls := 9, slots := #[.int (-53)], vm := .none },
  { cls := 9, slots := #[.int (-52)], vm := .none },
  { cls := 9, slots := #[.int (-51)], vm := .none },
  { cls := 9, slots := #[.int (-50)], vm := .none },
  { cls := 9, slots := #[.int (-49)], vm := .none },
  { cls := 9, slots := #[.int (-48)], vm := .none },
  { cls := 9, slots := #[.int (-47)], vm := .none },
  { cls := 9, slots := #[.int (-46)], vm := .none },
  { cls := 9, slots := #[.int (-45)], vm := .none },
  { cls := 9, slots := #[.int (-44)], vm := .none },
  { cls := 9, slots := #[.int (-43)], vm := .none },
  { cls := 9, slots := #[.int (-42)], vm := .none },
  { cls := 9, slots := #[.int (-41)], vm := .none },
  { cls := 9, slots := #[.int (-40)], vm := .none },
  { cls := 9, slots := #[.int (-39)], vm := .none },
  { cls := 9, slots := #[.int (-38)], vm := .none },
  { cls := 9, slots := #[.int (-37)], vm := .none },
  { cls := 9, slots := #[.int (-36)], vm := .none },
  { cls := 9, slots := #[.int (-35)], vm := .none },
  { cls := 9, slots := #[.int (-34)], vm := .none },
  { cls := 9, slots := #[.int (-33)], vm := .none },
  { cls := 9, slots := #[.int (-32)], vm := .none },
  { cls := 9, slots := #[.int (-31)], vm := .none },
  { cls := 9, slots := #[.int (-30)], vm := .none },
  { cls := 9, slots := #[.int (-29)], vm := .none },
  { cls := 9, slots := #[.int (-28)], vm := .none },
  { cls := 9, slots := #[.int (-27)], vm := .none },
  { cls := 9, slots := #[.int (-26)], vm := .none },
  { cls := 9, slots := #[.int (-25)], vm := .none },
  { cls := 9, slots := #[.int (-24)], vm := .none },
  { cls := 9, slots := #[.int (-23)], vm := .none },
  { cls := 9, slots := #[.int (-22)], vm := .none },
  { cls := 9, slots := #[.int (-21)], vm := .none },
  { cls := 9, slots := #[.int (-20)], vm := .none },
  { cls := 9, slots := #[.int (-19)], vm := .none },
  { cls := 9, slots := #[.int (-18)], vm := .none },
  { cls := 9, slots := #[.int (-17)], vm := .none },
  { cls := 9, slots := #[.int (-16)], vm := .none },
  { cls := 9, slots := #[.int (-15)], vm := .none },
  { cls := 9, slots := #[.int (-14)], vm := .none },
  { cls := 9, slots := #[.int (-13)], vm := .none },
  { cls := 9, slots := #[.int (-12)], vm := .none },
  { cls := 9, slots := #[.int (-11)], vm := .none },
  { cls := 9, slots := #[.int (-10)], vm := .none },
  { cls := 9, slots := #[.int (-9)], vm := .none },
  { cls := 9, slots := #[.int (-8)], vm := .none },
  { cls := 9, slots := #[.int (-7)], vm := .none },
  { cls := 9, slots := #[.int (-6)], vm := .none },
  { cls := 9, slots := #[.int (-5)], vm := .none },
  { cls := 9, slots := #[.int (-4)], vm := .none },
  { cls := 9, slots := #[.int (-3)], vm := .none },
  { cls := 9, slots := #[.int (-2)], vm := .none },
  { cls := 9, slots := #[.int (-1)], vm := .none },
  { cls := 9, slots := #[.int (0)], vm := .none },
  { cls := 9, slots := #[.int (1)], vm := .none },
  { cls := 9, slots := #[.int (2)], vm := .none },
  { cls := 9, slots := #[.int (3)], vm := .none },
  { cls := 9, slots := #[.int (4)], vm := .none },
  { cls := 9, slots := #[.int (5)], vm := .none },
  { cls := 9, slots := #[.int (6)], vm := .none },
  { cls := 9, slots := #[.int (7)], vm := .none },
  { cls := 9, slots := #[.int (8)], vm := .none },
  { cls := 9, slots := #[.int (9)], vm := .none },
  { cls := 9, slots := #[.int (10)], vm := .none },
  { cls := 9, slots := #[.int (11)], vm := .none },
  { cls := 9, slots := #[.int (12)], vm := .none },
  { cls := 9, slots := #[.int (13)], vm := .none },
  { cls := 9, slots := #[.int (14)], vm := .none },
  { cls := 9, slots := #[.int (15)], vm := .none },
  { cls := 9, slots := #[.int (16)], vm := .none },
  { cls := 9, slots := #[.int (17)], vm := .none },
  { cls := 9, slots := #[.int (18)], vm := .none },
  { cls := 9, slots := #[.int (19)], vm := .none },
  { cls := 9, slots := #[.int (20)], vm := .none },
  { cls := 9, slots := #[.int (21)], vm := .none },
  { cls := 9, slots := #[.int (22)], vm := .none },
  { cls := 9, slots := #[.int (23)], vm := .none },
  { cls := 9, slots := #[.int (24)], vm := .none },
  { cls := 9, slots := #[.int (25)], vm := .none },
  { cls := 9, slots := #[.int (26)], vm := .none },
  { cls := 9, slots := #[.int (27)], vm := .none },
  { cls := 9, slots := #[.int (28)], vm := .none },
  { cls := 9, slots := #[.int (29)], vm := .none },
  { cls := 9, slots := #[.int (30)], vm := .none },
  { cls := 9, slots := #[.int (31)], vm := .none },
  { cls := 9, slots := #[.int (32)], vm := .none },
  { cls := 9, slots := #[.int (33)], vm := .none },
  { cls := 9, slots := #[.int (34)], vm := .none },
  { cls := 9, slots := #[.int (35)], vm := .none },
  { cls := 9, slots := #[.int (36)], vm := .none },
  { cls := 9, slots := #[.int (37)], vm := .none },
  { cls := 9, slots := #[.int (38)], vm := .none },
  { cls := 9, slots := #[.int (39)], vm := .none },
  { cls := 9, slots := #[.int (40)], vm := .none },
  { cls := 9, slots := #[.int (41)], vm := .none },
  { cls := 9, slots := #[.int (42)], vm := .none },
  { cls := 9, slots := #[.int (43)], vm := .none },
  { cls := 9, slots := #[.int (44)], vm := .none },
  { cls := 9, slots := #[.int (45)], vm := .none },
  { cls := 9, slots := #[.int (46)], vm := .none },
  { cls := 9, slots := #[.int (47)], vm := .none },
  { cls := 9, slots := #[.int (48)], vm := .none },
  { cls := 9, slots := #[.int (49)], vm := .none },
  { cls := 9, slots := #[.int (50)], vm := .none },
  { cls := 9, slots := #[.int (51)], vm := .none },
  { cls := 9, slots := #[.int (52)], vm := .none },
  { cls := 9, slots := #[.int (53)], vm := .none },
  { cls := 9, slots := #[.int (54)], vm := .none },
  { cls := 9, slots := #[.int (55)], vm := .none },
  { cls := 9, slots := #[.int (56)], vm := .none },
  { cls := 9, slots := #[.int (57)], vm := .none },
  { cls := 9, slots := #[.int (58)], vm := .none },
  { cls := 9, slots := #[.int (59)], vm := .none },
  { cls := 9, slots := #[.int (60)], vm := .none },
  { cls := 9, slots := #[.int (61)], vm := .none },
  { cls := 9, slots := #[.int (62)], vm := .none },
  { cls := 9, slots := #[.int (63)], vm := .none },
  { cls := 9, slots := #[.int (64)], vm := .none },
  { cls := 9, slots := #[.int (65)], vm := .none },
  { cls := 9, slots := #[.int (66)], vm := .none },
  { cls := 9, slots := #[.int (67)], vm := .none },
  { cls := 9, slots := #[.int (68)], vm := .none },
  { cls := 9, slots := #[.int (69)], vm := .none },
  { cls := 9, slots := #[.int (70)], vm := .none },
  { cls := 9, slots := #[.int (71)], vm := .none },
  { cls := 9, slots := #[.int (72)], vm := .none },
  { cls := 9, slots := #[.int (73)], vm := .none },
  { cls := 9, slots := #[.int (74)], vm := .none },
  { cls := 9, slots := #[.int (75)], vm := .none },
  { cls := 9, slots := #[.int (76)], vm := .none },
  { cls := 9, slots := #[.int (77)], vm := .none },
  { cls := 9, slots := #[.int (78)], vm := .none },
  { cls := 9, slots := #[.int (79)], vm := .none },
  { cls := 9, slots := #[.int (80)], vm := .none },
  { cls := 9, slots := #[.int (81)], vm := .none },
  { cls := 9, slots := #[.int (82)], vm := .none },
  { cls := 9, slots := #[.int (83)], vm := .none },
  { cls := 9, slots := #[.int (84)], vm := .none },
  { cls := 9, slots := #[.int (85)], vm := .none },
  { cls := 9, slots := #[.int (86)], vm := .none },
  { cls := 9, slots := #[.int (87)], vm := .none },
  { cls := 9, slots := #[.int (88)], vm := .none },
  { cls := 9, slots := #[.int (89)], vm := .none },
  { cls := 9, slots := #[.int (90)], vm := .none },
  { cls := 9, slots := #[.int (91)], vm := .none },
  { cls := 9, slots := #[.int (92)], vm := .none },
  { cls := 9, slots := #[.int (93)], vm := .none },
  { cls := 9, slots := #[.int (94)], vm := .none },
  { cls := 9, slots := #[.int (95)], vm := .none },
  { cls := 9, slots := #[.int (96)], vm := .none },
  { cls := 9, slots := #[.int (97)], vm := .none },
  { cls := 9, slots := #[.int (98)], vm := .none },
  { cls := 9, slots := #[.int (99)], vm := .none },
  { cls := 9, slots := #[.int (100)], vm := .none },
  { cls := 9, slots := #[.int (101)], vm := .none },
  { cls := 9, slots := #[.int (102)], vm := .none },
  { cls := 9, slots := #[.int (103)], vm := .none },
  { cls := 9, slots := #[.int (104)], vm := .none },
  { cls := 9, slots := #[.int (105)], vm := .none },
  { cls := 9, slots := #[.int (106)], vm := .none },
  { cls := 9, slots := #[.int (107)], vm := .none },
  { cls := 9, slots := #[.int (108)], vm := .none },
  { cls := 9, slots := #[.int (109)], vm := .none },
  { cls := 9, slots := #[.int (110)], vm := .none },
  { cls := 9, slots := #[.int (111)], vm := .none },
  { cls := 9, slots := #[.int (112)], vm := .none },
  { cls := 9, slots := #[.int (113)], vm := .none },
  { cls := 9, slots := #[.int (114)], vm := .none },
  { cls := 9, slots := #[.int (115)], vm := .none },
  { cls := 9, slots := #[.int (116)], vm := .none },
  { cls := 9, slots := #[.int (117)], vm := .none },
  { cls := 9, slots := #[.int (118)], vm := .none },
  { cls := 9, slots := #[.int (119)], vm := .none },
  { cls := 9, slots := #[.int (120)], vm := .none },
  { cls := 9, slots := #[.int (121)], vm := .none },
  { cls := 9, slots := #[.int (122)], vm := .none },
  { cls := 9, slots := #[.int (123)], vm := .none },
  { cls := 9, slots := #[.int (124)], vm := .none },
  { cls := 9, slots := #[.int (125)], vm := .none },
  { cls := 9, slots := #[.int (126)], vm := .none },
  { cls := 9, slots := #[.int (127)], vm := .none }]
def classes : Array Class := #[k0, k1, k2, k3, k4, k5, k6, k7, k8, k9, k10, k11, k12, k13, k14, k15, k16]
def interned : List (Array UInt16 × Addr) := []
def slotsUsed : Nat := 517
def theMethod : MethodId := ⟨1, 4⟩
def args0 : Array Value := #[.int 3, .int 300]
def aboutOver (below : List Frame) : State where
  vm := { classes := classes, interned := interned.toArray }
  heap := heap
  slotsUsed := slotsUsed
  threads := #[{ frames := .invoking theMethod args0 :: below }]
def below0 : List Frame := [.native { method := ⟨0, 0⟩, args := #[] }]
def about1 : State := aboutOver below0
def p0 : Program := .bare "" "" ""
def e0 : Env := launch0.env 0 0 0
theorem w_frames : about1.frames = Frame.invoking theMethod args0 :: below0 := rfl
set_option maxRecDepth 65536 in
theorem w_args : argsFit about1.vm theMethod args0 = true := by decide +kernel
set_option maxRecDepth 65536 in
theorem w_heap : heapFits about1 = true := by decide +kernel
set_option maxRecDepth 65536 in
theorem w_runnable : about1.curStatus? = some .runnable := by decide +kernel
set_option maxRecDepth 65536 in
theorem w_alone : about1.alone = true := by decide +kernel
set_option maxRecDepth 65536 in
theorem w_named : about1.methodNamed? x = some theMethod := by decide +kernel
set_option maxRecDepth 65536 in
theorem w_hears : about1.hears theMethod below0 = true := by decide +kernel
set_option maxRecDepth 65536 in
theorem w_ripe : about1.ripe theMethod args0 below0 = true := by decide +kernel
theorem w_running : about1.status = .running := rfl
set_option maxRecDepth 65536 in
theorem w_room : about1.hasRoom e0.platform room_1 = true :=
  launch0.hasRoom_least _ room_1 (by decide +kernel) (by decide +kernel) (by decide +kernel) (by decide +kernel) (by decide +kernel) (by decide +kernel)
theorem allAtoms_all (ts : List Jvm.Cond) (a : Array Jvm.Value) (st : Jvm.State) : (allAtoms ts).before a st = ts.all (fun c => c.before a st) := by
  induction ts with
  | nil => rfl
  | cons c t ih =>
    show (Jvm.Cond.and c (allAtoms t)).before a st = _
    rw [Jvm.Cond.before_and, ih, List.all_cons]
def words1 : List Jvm.Cond := Jvm.Cond.code x code maxLocals ret :: tables_1
/-- a 'code' word, met by the world's own term for the bytes: nothing is compared byte by byte -/
theorem code_word {y : MethodName} {bytes : ByteArray} {mx : Nat} {rt : Option FieldType} {a : Array Value} {s : State} {m : MethodId} {meth : Method} {c : Code} (h1 : s.methodNamed? y = some m) (h2 : s.vm.method? m = some meth) (h3 : meth.code = some c) (h4 : c.code = bytes)
    (h5 : (c.maxLocals == mx && c.exceptionTable.isEmpty && decide (c.maxStack ≤ mostOperands) && decide (meth.sig.returnType = rt) && !meth.locks && decide (parseMethodDescriptor y.desc = some meth.sig)) = true) : (Jvm.Cond.code y bytes mx rt).before a s = true := by
  simp only [Bool.and_eq_true, beq_iff_eq, Bool.not_eq_true', decide_eq_true_eq] at h5
  obtain ⟨⟨⟨⟨⟨g1, g2⟩, g3⟩, g4⟩, g5⟩, g6⟩ := h5
  simp [Cond.before, Cond.holds, Cond.value, h1, h2, h3, h4, g1, g2, g3, g4, g5, g6]
def isCode : Jvm.Cond → Bool
  | .code _ _ _ _ => true
  | _ => false
theorem all_split {L : List Jvm.Cond} {P : Jvm.Cond → Bool} (h1 : L.all (fun c => isCode c || P c) = true) (h2 : ∀ c ∈ L.filter isCode, P c = true) : L.all P = true := by
  refine List.all_eq_true.mpr fun c hc => ?_
  have h := List.all_eq_true.mp h1 c hc
  rcases Bool.eq_false_or_eq_true (isCode c) with hi | hi
  · exact h2 c (List.mem_filter.mpr ⟨hc, hi⟩)
  · simpa [hi] using h
set_option maxRecDepth 65536 in
theorem w_c0 : (Jvm.Cond.code x code maxLocals ret).before args0 about1 = true := code_word (m := ⟨1, 4⟩) (meth := k1m4) (c := k1c4) (by decide +kernel) rfl rfl rfl (by decide +kernel)
set_option maxRecDepth 65536 in
theorem w_c1 : (Jvm.Cond.code ({ cls := "com/example/rowan/rowan/NodeCountPinLaw", name := "mk", desc := "(III)Lcom/example/rowan/rowan/Node;" } : Jvm.MethodName) method_3_code (4 : Nat) (Option.some (Jvm.ClassFile.FieldType.object "com/example/rowan/rowan/Node"))).before args0 about1 = true := code_word (m := ⟨1, 2⟩) (meth := k1m2) (c := k1c2) (by decide +kernel) rfl rfl rfl (by decide +kernel)
set_option maxRecDepth 65536 in
theorem w_c2 : (Jvm.Cond.code ({ cls := "com/example/rowan/rowan/NodeCountPinLaw", name := "bit", desc := "(II)Z" } : Jvm.MethodName) method_2_code (2 : Nat) (Option.some Jvm.ClassFile.FieldType.boolean)).before args0 about1 = true := code_word (m := ⟨1, 1⟩) (meth := k1m1) (c := k1c1) (by decide +kernel) rfl rfl rfl (by decide +kernel)
set_option maxRecDepth 65536 in
theorem w_c3 : (Jvm.Cond.code ({ cls := "com/example/rowan/rowan/NodeCountPinLaw", name := "link", desc := "(Lcom/example/rowan/rowan/Node;Lcom/example/rowan/rowan/Node;Lcom/example/rowan/rowan/Node;)V" } : Jvm.MethodName) method_4_code (3 : Nat) (Option.none : Option Jvm.ClassFile.FieldType)).before args0 about1 = true := code_word (m := ⟨1, 3⟩) (meth := k1m3) (c := k1c3) (by decide +kernel) rfl rfl rfl (by decide +kernel)
set_option maxRecDepth 65536 in
theorem w_c4 : (Jvm.Cond.code ({ cls := "com/example/rowan/rowan/Node", name := "count", desc := "(Lcom/example/rowan/rowan/Node;)I" } : Jvm.MethodName) prog_16_method_15_code (2 : Nat) (Option.some Jvm.ClassFile.FieldType.int)).before args0 about1 = true := code_word (m := ⟨3, 1⟩) (meth := k3m1) (c := k3c1) (by decide +kernel) rfl rfl rfl (by decide +kernel)
set_option maxRecDepth 65536 in
theorem w_c5 : (Jvm.Cond.code ({ cls := "java/lang/Integer", name := "valueOf", desc := "(I)Ljava/lang/Integer;" } : Jvm.MethodName) jdk_33_method_22_code (1 : Nat) (Option.some (Jvm.ClassFile.FieldType.object "java/lang/Integer"))).before args0 about1 = true := code_word (m := ⟨9, 0⟩) (meth := k9m0) (c := k9c0) (by decide +kernel) rfl rfl rfl (by decide +kernel)
set_option maxRecDepth 65536 in
theorem w_c6 : (Jvm.Cond.code ({ cls := "com/example/rowan/rowan/Node", name := "<init>", desc := "(Ljava/lang/Object;Ljava/lang/Object;)V" } : Jvm.MethodName) prog_16_method_1_code (3 : Nat) (Option.none : Option Jvm.ClassFile.FieldType)).before args0 about1 = true := code_word (m := ⟨3, 0⟩) (meth := k3m0) (c := k3c0) (by decide +kernel) rfl rfl rfl (by decide +kernel)
set_option maxRecDepth 65536 in
theorem w_c7 : (Jvm.Cond.code ({ cls := "java/lang/Object", name := "<init>", desc := "()V" } : Jvm.MethodName) object_method_1_code (1 : Nat) (Option.none : Option Jvm.ClassFile.FieldType)).before args0 about1 = true := code_word (m := ⟨0, 0⟩) (meth := k0m0) (c := k0c0) (by decide +kernel) rfl rfl rfl (by decide +kernel)
set_option maxRecDepth 65536 in
theorem w_c8 : (Jvm.Cond.code ({ cls := "java/lang/Integer", name := "<init>", desc := "(I)V" } : Jvm.MethodName) jdk_33_method_23_code (2 : Nat) (Option.none : Option Jvm.ClassFile.FieldType)).before args0 about1 = true := code_word (m := ⟨9, 1⟩) (meth := k9m1) (c := k9c1) (by decide +kernel) rfl rfl rfl (by decide +kernel)
set_option maxRecDepth 65536 in
theorem w_c9 : (Jvm.Cond.code ({ cls := "java/lang/Number", name := "<init>", desc := "()V" } : Jvm.MethodName) jdk_18_method_1_code (1 : Nat) (Option.none : Option Jvm.ClassFile.FieldType)).before args0 about1 = true := code_word (m := ⟨5, 0⟩) (meth := k5m0) (c := k5c0) (by decide +kernel) rfl rfl rfl (by decide +kernel)
def codes1 : List Jvm.Cond := [Jvm.Cond.code x code maxLocals ret, Jvm.Cond.code ({ cls := "com/example/rowan/rowan/NodeCountPinLaw", name := "mk", desc := "(III)Lcom/example/rowan/rowan/Node;" } : Jvm.MethodName) method_3_code (4 : Nat) (Option.some (Jvm.ClassFile.FieldType.object "com/example/rowan/rowan/Node")), Jvm.Cond.code ({ cls := "com/example/rowan/rowan/NodeCountPinLaw", name := "bit", desc := "(II)Z" } : Jvm.MethodName) method_2_code (2 : Nat) (Option.some Jvm.ClassFile.FieldType.boolean), Jvm.Cond.code ({ cls := "com/example/rowan/rowan/NodeCountPinLaw", name := "link", desc := "(Lcom/example/rowan/rowan/Node;Lcom/example/rowan/rowan/Node;Lcom/example/rowan/rowan/Node;)V" } : Jvm.MethodName) method_4_code (3 : Nat) (Option.none : Option Jvm.ClassFile.FieldType), Jvm.Cond.code ({ cls := "com/example/rowan/rowan/Node", name := "count", desc := "(Lcom/example/rowan/rowan/Node;)I" } : Jvm.MethodName) prog_16_method_15_code (2 : Nat) (Option.some Jvm.ClassFile.FieldType.int), Jvm.Cond.code ({ cls := "java/lang/Integer", name := "valueOf", desc := "(I)Ljava/lang/Integer;" } : Jvm.MethodName) jdk_33_method_22_code (1 : Nat) (Option.some (Jvm.ClassFile.FieldType.object "java/lang/Integer")), Jvm.Cond.code ({ cls := "com/example/rowan/rowan/Node", name := "<init>", desc := "(Ljava/lang/Object;Ljava/lang/Object;)V" } : Jvm.MethodName) prog_16_method_1_code (3 : Nat) (Option.none : Option Jvm.ClassFile.FieldType), Jvm.Cond.code ({ cls := "java/lang/Object", name := "<init>", desc := "()V" } : Jvm.MethodName) object_method_1_code (1 : Nat) (Option.none : Option Jvm.ClassFile.FieldType), Jvm.Cond.code ({ cls := "java/lang/Integer", name := "<init>", desc := "(I)V" } : Jvm.MethodName) jdk_33_method_23_code (2 : Nat) (Option.none : Option Jvm.ClassFile.FieldType), Jvm.Cond.code ({ cls := "java/lang/Number", name := "<init>", desc := "()V" } : Jvm.MethodName) jdk_18_method_1_code (1 : Nat) (Option.none : Option Jvm.ClassFile.FieldType)]
set_option maxRecDepth 65536 in
theorem codes_eq : words1.filter isCode = codes1 := rfl
theorem w_codes : ∀ c ∈ words1.filter isCode, c.before args0 about1 = true := by
  rw [codes_eq]
  intro c hc
  simp only [codes1, List.mem_cons, List.not_mem_nil, or_false] at hc
  rcases hc with rfl | rfl | rfl | rfl | rfl | rfl | rfl | rfl | rfl | rfl
  · exact w_c0
  · exact w_c1
  · exact w_c2
  · exact w_c3
  · exact w_c4
  · exact w_c5
  · exact w_c6
  · exact w_c7
  · exact w_c8
  · exact w_c9
set_option maxRecDepth 65536 in
theorem w_t1 : (words1.take 24).all (fun c => isCode c || c.before args0 about1) = true := by decide +kernel
set_option maxRecDepth 65536 in
theorem w_t2 : ((words1.drop 24).take 24).all (fun c => isCode c || c.before args0 about1) = true := by decide +kernel
set_option maxRecDepth 65536 in
theorem w_t3 : ((words1.drop 24).drop 24).all (fun c => isCode c || c.before args0 about1) = true := by decide +kernel
theorem w_tables : (allAtoms (Jvm.Cond.code x code maxLocals ret :: tables_1)).before args0 about1 = true := by
  rw [allAtoms_all]
  show words1.all (fun c => c.before args0 about1) = true
  refine all_split ?_ w_codes
  rw [← List.take_append_drop 24 words1, List.all_append, w_t1, ← List.take_append_drop 24 (words1.drop 24), List.all_append, w_t2, w_t3]
  rfl
set_option maxRecDepth 65536 in
theorem w_rest : rest_1_c.before args0 about1 = true := by decide +kernel
set_option maxRecDepth 65536 in
theorem w_case : (Jvm.Cond.and given_1 narrow_1).before args0 about1 = true := by decide +kernel
theorem w_applies : (headSpec (Jvm.Cond.code x code maxLocals ret :: tables_1) room_1).applies x e0.platform about1 = true :=
  (Spec.applies_iff w_frames).mpr ⟨w_running, w_runnable, w_alone, w_named, w_hears, w_ripe, w_room, w_tables⟩
theorem atStart : AtStart classFile x code maxLocals ret World_1 tables_1 room_1 Calls_1 rest_1 Pre_1 launch0 p0 e0 about1 theMethod args0 below0 :=
  ⟨lists_1, trivial, launch0.admits_env _ _ _, launch0.least_env, fairChoices_fair.cas, fairChoices_fair.clock, w_frames, w_args, w_heap, w_applies, trivial, w_rest, w_case⟩
end start1
theorem witness_1 : WitnessClaimed_1 := ⟨start1.p0, start1.e0, start1.about1, start1.theMethod, start1.args0, start1.below0, start1.atStart⟩
end Jvm.Pilot.@@N@@
