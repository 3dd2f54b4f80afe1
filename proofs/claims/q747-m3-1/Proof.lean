import JvmDerived
import JvmDerived.Pilot.@@N@@Statement
import JvmDerived.Pilot.@@N@@Code
set_option linter.unusedVariables false
set_option linter.unusedSimpArgs false
namespace Jvm.Pilot.@@N@@
open Jvm Jvm.ClassFile Sem Op Lib Jvm.Free Jvm.Stand Jvm.LawKit Jvm.RoadKit Bundle Jvm.Pilot.@@N@@.Jvm.D
section Own
variable {p : Program} {l : Launch} {e : Env} {R : Room} {s : State} {m : MethodId} {args : Array Value} {below : List Frame} {meth : Method} {c : Code} {T : State} {locs : List Loc} {cells slots : Nat}
/-- from U the run comes to an end of which Q holds -/
def OwnEnds (tb : Tables) (e : Env) (below : List Frame) (Q : Outcome → State → Prop) (U : State) : Prop :=
  ∃ s₂ o, Steps tb e below U s₂ ∧ s₂.status = .running ∧ Ended s₂ below o ∧ Q o s₂
abbrev OwnQ (s : State) (K N : Nat) (Q : Option Value → Heap → List Loc → Prop) : Outcome → State → Prop :=
  fun o U => ∃ v L, o = .returned v ∧ Q v U.heap L ∧ FrameEnd s o U L K N
theorem own_via {tb : Tables} {Q : Outcome → State → Prop} {U U' : State} (h : ∀ t, Steps tb e below U' t → Steps tb e below U t) (k : OwnEnds tb e below Q U') : OwnEnds tb e below Q U := by
  obtain ⟨s₂, o, h1, h2⟩ := k
  exact ⟨s₂, o, h _ h1, h2⟩
theorem own_of {tb : Tables} {Q : Outcome → State → Prop} {U U' : State} (h : Steps tb e below U U') (k : OwnEnds tb e below Q U') : OwnEnds tb e below Q U :=
  own_via (fun _ q => h.trans q) k
theorem own_wide {K N : Nat} (X : Stand p l e R s m args below meth c T locs cells slots) (h1 : cells ≤ K) (h2 : slots ≤ N) : Stand p l e R s m args below meth c T locs K N :=
  { X with same := X.same.mono h1 h2 }
theorem own_ret (X : Stand p l e R s m args below meth c T locs cells slots) {Q : Option Value → Heap → List Loc → Prop} {K N : Nat} {v : Option Value} (hv : meth.sig.returnType = none → v = none) (hlk : meth.locks = false) {f : JFrame}
    (st : ∀ fs, (∀ (f : JFrame) (acts : List Action), f.method = m → f.locked = none → f.entered = [] → (doReturn e (T.setTop f) acts v).1 = T.setFrames fs) → Steps p.tables e below (T.setTop f) (T.setFrames fs))
    (hQ : Q v T.heap locs) (hK : cells ≤ K) (hN : slots ≤ N) : OwnEnds p.tables e below (OwnQ s K N Q) (T.setTop f) := by
  obtain ⟨fs, hr, hrun, hended, hW, hsame⟩ := X.leave (v := v) hv hlk
  exact ⟨_, _, st fs hr, hrun, hended, _, _, rfl, hQ, ⟨_, rfl⟩, hW, hsame.mono hK hN⟩
theorem own_retI (X : Stand p l e R s m args below meth c T locs cells slots) (hx : p.tables.exec = Jvm.exec) {Q : Option Value → Heap → List Loc → Prop} {K N pc : Nat} {Ls : Array Slot} {z : Int32} {rest : List Value} (hret : meth.sig.returnType = some .int) (hlk : meth.locks = false) (hd : decode c.code pc = .ok (.ireturn, 1))
    (hQ : Q (some (.int z)) T.heap locs) (hK : cells ≤ K) (hN : slots ≤ N) : OwnEnds p.tables e below (OwnQ s K N Q) (T.setTop (mkF m pc Ls (.int z :: rest))) :=
  own_ret X (fun h => by rw [hret] at h; cases h) hlk (fun fs hl => retOut X hx hret rfl (Or.inl ⟨rfl, Or.inl rfl, z, rfl⟩) hd hl) hQ hK hN
theorem own_retN (X : Stand p l e R s m args below meth c T locs cells slots) (hx : p.tables.exec = Jvm.exec) {Q : Option Value → Heap → List Loc → Prop} {K N pc : Nat} {Ls : Array Slot} {z : Int32} {t : FieldType} {rest : List Value} (hret : meth.sig.returnType = some t) (ht : t = .boolean ∨ t = .byte ∨ t = .char ∨ t = .short) (hlk : meth.locks = false) (hd : decode c.code pc = .ok (.ireturn, 1))
    (hQ : Q (some (.int (nar t z))) T.heap locs) (hK : cells ≤ K) (hN : slots ≤ N) : OwnEnds p.tables e below (OwnQ s K N Q) (T.setTop (mkF m pc Ls (.int z :: rest))) :=
  own_ret X (fun h => by rw [hret] at h; cases h) hlk (fun fs hl => retN X hx hret ht hd hl) hQ hK hN
theorem own_retJ (X : Stand p l e R s m args below meth c T locs cells slots) (hx : p.tables.exec = Jvm.exec) {Q : Option Value → Heap → List Loc → Prop} {K N pc : Nat} {Ls : Array Slot} {z : Int64} {rest : List Value} (hret : meth.sig.returnType = some .long) (hlk : meth.locks = false) (hd : decode c.code pc = .ok (.lreturn, 1))
    (hQ : Q (some (.long z)) T.heap locs) (hK : cells ≤ K) (hN : slots ≤ N) : OwnEnds p.tables e below (OwnQ s K N Q) (T.setTop (mkF m pc Ls (.long z :: rest))) :=
  own_ret X (fun h => by rw [hret] at h; cases h) hlk (fun fs hl => retOut X hx hret rfl (Or.inr (Or.inl ⟨rfl, rfl, z, rfl⟩)) hd hl) hQ hK hN
theorem own_retA (X : Stand p l e R s m args below meth c T locs cells slots) (hx : p.tables.exec = Jvm.exec) {Q : Option Value → Heap → List Loc → Prop} {K N pc : Nat} {Ls : Array Slot} {w : Value} {t : FieldType} {rest : List Value} (hret : meth.sig.returnType = some t) (ht : t.isReference = true) (hw : w.isRef = true) (hlk : meth.locks = false) (hd : decode c.code pc = .ok (.areturn, 1))
    (hQ : Q (some w) T.heap locs) (hK : cells ≤ K) (hN : slots ≤ N) : OwnEnds p.tables e below (OwnQ s K N Q) (T.setTop (mkF m pc Ls (w :: rest))) :=
  own_ret X (fun h => by rw [hret] at h; cases h) hlk (fun fs hl => retOut X hx hret (by cases t <;> first | (cases ht; done) | (cases w <;> first | rfl | (cases hw; done))) (Or.inr (Or.inr (Or.inr (Or.inr ⟨rfl, ht, hw⟩)))) hd hl) hQ hK hN
theorem own_retV (X : Stand p l e R s m args below meth c T locs cells slots) (hx : p.tables.exec = Jvm.exec) {Q : Option Value → Heap → List Loc → Prop} {K N pc : Nat} {Ls : Array Slot} (hret : meth.sig.returnType = none) (hlk : meth.locks = false) (hd : decode c.code pc = .ok (.return_, 1))
    (hQ : Q none T.heap locs) (hK : cells ≤ K) (hN : slots ≤ N) : OwnEnds p.tables e below (OwnQ s K N Q) (T.setTop (mkF m pc Ls [])) :=
  own_ret X (fun _ => rfl) hlk (fun fs hl => X.returnOut hx hret hd hl) hQ hK hN
theorem own_lc_lt_t {x y : Int64} (h : x < y) : ifCond.holds .lt (lcmpW x y) = true ∧ ifCond.holds .ge (lcmpW x y) = false := by
  have q : lcmpW x y < 0 := by rw [lcW, lc_lt]; exact h
  exact ⟨(if0 _ _).trans (tlt q).1, (if0 _ _).trans (tlt q).2.1⟩
theorem own_lc_lt_f {x y : Int64} (h : ¬ (x < y)) : ifCond.holds .lt (lcmpW x y) = false ∧ ifCond.holds .ge (lcmpW x y) = true := by
  have q : ¬ lcmpW x y < 0 := by rw [lcW, lc_lt]; exact h
  exact ⟨(if0 _ _).trans (flt q).1, (if0 _ _).trans (flt q).2.1⟩
theorem own_lc_gt_t {x y : Int64} (h : y < x) : ifCond.holds .gt (lcmpW x y) = true ∧ ifCond.holds .le (lcmpW x y) = false := by
  have q : 0 < lcmpW x y := by rw [lcW, lc_gt]; exact h
  exact ⟨(if0 _ _).trans (tlt q).2.2.1, (if0 _ _).trans (tlt q).2.2.2⟩
theorem own_lc_gt_f {x y : Int64} (h : ¬ (y < x)) : ifCond.holds .gt (lcmpW x y) = false ∧ ifCond.holds .le (lcmpW x y) = true := by
  have q : ¬ 0 < lcmpW x y := by rw [lcW, lc_gt]; exact h
  exact ⟨(if0 _ _).trans (flt q).2.2.1, (if0 _ _).trans (flt q).2.2.2⟩
theorem own_lc_eq_t {x y : Int64} (h : x = y) : ifCond.holds .eq (lcmpW x y) = true ∧ ifCond.holds .ne (lcmpW x y) = false := by
  have q : lcmpW x y = 0 := by rw [lcW, lc_eq]; exact h
  exact ⟨(if0 _ _).trans (teq q).1, (if0 _ _).trans (teq q).2⟩
theorem own_lc_eq_f {x y : Int64} (h : ¬ (x = y)) : ifCond.holds .eq (lcmpW x y) = false ∧ ifCond.holds .ne (lcmpW x y) = true := by
  have q : ¬ lcmpW x y = 0 := by rw [lcW, lc_eq]; exact h
  exact ⟨(if0 _ _).trans (feq q).1, (if0 _ _).trans (feq q).2⟩
theorem own_lrem {g : JFrame} {target : State} (X : Stand p l e R s m args below meth c T locs cells slots) (hx : p.tables.exec = Jvm.exec) (hg : g.method = m) {x y : Int64} {rest : List Value} (hd : decode c.code g.pc = .ok (.lrem, 1)) (hs : g.stack = .long y :: .long x :: rest) (hy : y ≠ 0)
    (hr : Steps p.tables e below (T.setTop { g with pc := g.pc + 1, stack := .long (x % y) :: rest }) target) : Steps p.tables e below (T.setTop g) target := by
  have q : x - x / y * y = x % y := lrem_mod x y
  exact XS.lrem X.here hx hg hd hs hy (by rw [q]; exact hr)
theorem own_cat {w : Value} (h : w.isRef = true) : w.category = 1 := by rcases ref_cases h with rfl | ⟨a, rfl⟩ <;> rfl
theorem own_narR {w : Value} {t : FieldType} (ht : t.isReference = true) (h : w.isRef = true) : narrow t w = w := by
  cases t <;> first | (cases ht; done) | (rcases ref_cases h with rfl | ⟨a, rfl⟩ <;> rfl)
theorem own_fitR {w : Value} {t : FieldType} (ht : t.isReference = true) (h : w.isRef = true) : fits t w = true := by
  cases t <;> first | (cases ht; done) | (rcases ref_cases h with rfl | ⟨a, rfl⟩ <;> rfl)
theorem own_narb {c : Prop} [Decidable c] {r : Int32} (h : r = if c then 0 else 1) : nar .boolean r = r := by
  by_cases q : c
  · rw [if_pos q] at h; rw [h]; rfl
  · rw [if_neg q] at h; rw [h]; rfl
/-! arrays as lists of values -/
def AL (Z : State) (h : Heap) (a : Addr) (ty : FieldType) (xs : List Value) : Prop := ∃ c : Cell, Arr Z h a c ty ∧ c.slots.toList = xs ∧ xs.length < 2147483648
variable {Z : State} {h h' : Heap} {a b : Addr} {ty : FieldType} {xs : List Value} {sl : Nat} {v : Value} {ws : List Addr} {C n d : String}
theorem AL.lt (F : AL Z h a ty xs) : a < h.size := by obtain ⟨c, A, -⟩ := F; exact A.lt
theorem AL.ext (F : AL Z h a ty xs) (E : Ext h h') : AL Z h' a ty xs := by obtain ⟨c, A, r⟩ := F; exact ⟨c, A.ext E, r⟩
theorem AL.other (F : AL Z h a ty xs) (W : Wr h h' b sl v) (q : a ≠ b) : AL Z h' a ty xs := by obtain ⟨c, A, r⟩ := F; exact ⟨c, A.other W q, r⟩
theorem AL.keep (F : AL Z h a ty xs) (K : Keep h h' ws) (q : a ∉ ws) : AL Z h' a ty xs := by obtain ⟨c, A, r⟩ := F; exact ⟨c, ⟨K.2.1 a c A.1 q, A.2⟩, r⟩
theorem AL.new {k : ClassId} {z : Int32} (A : Arr Z h a (newA k ty z) ty) (q : ¬ z < 0) {i : Nat} (hi : z.toNatClampNeg = i) : AL Z h a ty (List.replicate i (defaultValue ty)) := by
  refine ⟨_, A, ?_, ?_⟩
  · simp [newA, hi]
  · rw [List.length_replicate, ← hi]; exact (back32 q).2
theorem AL.ne {C : String} (F : AL Z h a ty xs) (G : Exa Z h b C) {a0 : Array Value} {k : Nat} (wi : (Cond.instantiable C k).before a0 Z = true) : b ≠ a := by
  obtain ⟨c, A, -⟩ := F; exact ne_arr G wi A
theorem own_idx {cl : Cell} (hc : cl.slots.toList = xs) {j : Int32} {i : Nat} (hj : j.toInt = i) (hi : i < xs.length) : ¬ (j < 0 ∨ cl.slots.size ≤ j.toNatClampNeg) ∧ j.toNatClampNeg = i := by
  have h1 : j.toNatClampNeg = i := by simp only [Int32.toNatClampNeg, hj]; rfl
  have h2 : cl.slots.size = xs.length := by rw [← hc]; simp
  refine ⟨fun q => ?_, h1⟩
  rcases q with q | q
  · rw [Int32.lt_iff_toInt_lt, hj] at q; have e0 : (0 : Int32).toInt = 0 := rfl; omega
  · omega
theorem own_at {cl : Cell} (hc : cl.slots.toList = xs) {i : Nat} : cl.slots[i]? = xs[i]? := by rw [← hc]; simp
theorem AL.set {cl : Cell} (A : Arr Z h a cl ty) (hc : cl.slots.toList = xs) (hl : xs.length < 2147483648) {i : Nat} (W : Wr h h' a i v) : AL Z h' a ty (xs.set i v) := by
  refine ⟨_, A.same W, ?_, by simpa using hl⟩
  simp [Cell.setSlot, hc]
theorem own_stI (X : Stand p l e R s m args below meth c T locs cells slots) (hx : p.tables.exec = Jvm.exec) (hZ : Z.Warmed39 s.vm) (eT : T.heap = h) (A : AL Z h a .int xs) {j x : Int32} (i : Nat) (hj : j.toInt = i) (hi : i < xs.length) {g : JFrame} (hg : g.method = m) {rest : List Value} (hs : g.stack = .int x :: .int j :: .ref a :: rest) (hd : decode c.code g.pc = .ok (.iastore, 1)) :
    ∃ T' h', Stand p l e R s m args below meth c T' (locs ++ [⟨a, i⟩]) cells slots ∧ T'.heap = h' ∧ Wr h h' a i (.int x) ∧ AL Z h' a .int (xs.set i (.int x)) ∧ ∀ target, Steps p.tables e below (T'.setTop { g with pc := g.pc + 1, stack := rest }) target → Steps p.tables e below (T.setTop g) target := by
  obtain ⟨cl, A1, A2, A3⟩ := A
  obtain ⟨q1, q2⟩ := own_idx A2 hj hi
  obtain ⟨T', h', X', e', W, st⟩ := stI X hx hZ eT A1 q1 hg hs hd
  rw [q2] at X' W
  exact ⟨T', h', X', e', W, AL.set A1 A2 A3 W, st⟩
theorem own_stJ (X : Stand p l e R s m args below meth c T locs cells slots) (hx : p.tables.exec = Jvm.exec) (hZ : Z.Warmed39 s.vm) (eT : T.heap = h) (A : AL Z h a .long xs) {j : Int32} {x : Int64} (i : Nat) (hj : j.toInt = i) (hi : i < xs.length) {g : JFrame} (hg : g.method = m) {rest : List Value} (hs : g.stack = .long x :: .int j :: .ref a :: rest) (hd : decode c.code g.pc = .ok (.lastore, 1)) :
    ∃ T' h', Stand p l e R s m args below meth c T' (locs ++ [⟨a, i⟩]) cells slots ∧ T'.heap = h' ∧ Wr h h' a i (.long x) ∧ AL Z h' a .long (xs.set i (.long x)) ∧ ∀ target, Steps p.tables e below (T'.setTop { g with pc := g.pc + 1, stack := rest }) target → Steps p.tables e below (T.setTop g) target := by
  obtain ⟨cl, A1, A2, A3⟩ := A
  obtain ⟨q1, q2⟩ := own_idx A2 hj hi
  obtain ⟨T', h', X', e', W, st⟩ := stJ X hx hZ eT A1 q1 hg hs hd
  rw [q2] at X' W
  exact ⟨T', h', X', e', W, AL.set A1 A2 A3 W, st⟩
theorem own_stB (X : Stand p l e R s m args below meth c T locs cells slots) (hx : p.tables.exec = Jvm.exec) (hZ : Z.Warmed39 s.vm) (eT : T.heap = h) (A : AL Z h a .byte xs) {j x : Int32} (i : Nat) (hj : j.toInt = i) (hi : i < xs.length) {g : JFrame} (hg : g.method = m) {rest : List Value} (hs : g.stack = .int x :: .int j :: .ref a :: rest) (hd : decode c.code g.pc = .ok (.bastore, 1)) :
    ∃ T' h', Stand p l e R s m args below meth c T' (locs ++ [⟨a, i⟩]) cells slots ∧ T'.heap = h' ∧ Wr h h' a i (.int (nar .byte x)) ∧ AL Z h' a .byte (xs.set i (.int (nar .byte x))) ∧ ∀ target, Steps p.tables e below (T'.setTop { g with pc := g.pc + 1, stack := rest }) target → Steps p.tables e below (T.setTop g) target := by
  obtain ⟨cl, A1, A2, A3⟩ := A
  obtain ⟨q1, q2⟩ := own_idx A2 hj hi
  obtain ⟨T', h', X', e', W, st⟩ := stB X hx hZ eT A1 q1 hg hs hd
  rw [q2] at X' W
  exact ⟨T', h', X', e', W, AL.set A1 A2 A3 W, st⟩
theorem own_stZ (X : Stand p l e R s m args below meth c T locs cells slots) (hx : p.tables.exec = Jvm.exec) (hZ : Z.Warmed39 s.vm) (eT : T.heap = h) (A : AL Z h a .boolean xs) {j x : Int32} (i : Nat) (hj : j.toInt = i) (hi : i < xs.length) {g : JFrame} (hg : g.method = m) {rest : List Value} (hs : g.stack = .int x :: .int j :: .ref a :: rest) (hd : decode c.code g.pc = .ok (.bastore, 1)) :
    ∃ T' h', Stand p l e R s m args below meth c T' (locs ++ [⟨a, i⟩]) cells slots ∧ T'.heap = h' ∧ Wr h h' a i (.int (nar .boolean x)) ∧ AL Z h' a .boolean (xs.set i (.int (nar .boolean x))) ∧ ∀ target, Steps p.tables e below (T'.setTop { g with pc := g.pc + 1, stack := rest }) target → Steps p.tables e below (T.setTop g) target := by
  obtain ⟨cl, A1, A2, A3⟩ := A
  obtain ⟨q1, q2⟩ := own_idx A2 hj hi
  obtain ⟨T', h', X', e', W, st⟩ := stZ X hx hZ eT A1 q1 hg hs hd
  rw [q2] at X' W
  exact ⟨T', h', X', e', W, AL.set A1 A2 A3 W, st⟩
theorem own_stC (X : Stand p l e R s m args below meth c T locs cells slots) (hx : p.tables.exec = Jvm.exec) (hZ : Z.Warmed39 s.vm) (eT : T.heap = h) (A : AL Z h a .char xs) {j x : Int32} (i : Nat) (hj : j.toInt = i) (hi : i < xs.length) {g : JFrame} (hg : g.method = m) {rest : List Value} (hs : g.stack = .int x :: .int j :: .ref a :: rest) (hd : decode c.code g.pc = .ok (.castore, 1)) :
    ∃ T' h', Stand p l e R s m args below meth c T' (locs ++ [⟨a, i⟩]) cells slots ∧ T'.heap = h' ∧ Wr h h' a i (.int (nar .char x)) ∧ AL Z h' a .char (xs.set i (.int (nar .char x))) ∧ ∀ target, Steps p.tables e below (T'.setTop { g with pc := g.pc + 1, stack := rest }) target → Steps p.tables e below (T.setTop g) target := by
  obtain ⟨cl, A1, A2, A3⟩ := A
  obtain ⟨q1, q2⟩ := own_idx A2 hj hi
  obtain ⟨T', h', X', e', W, st⟩ := stC X hx hZ eT A1 q1 hg hs hd
  rw [q2] at X' W
  exact ⟨T', h', X', e', W, AL.set A1 A2 A3 W, st⟩
theorem own_lt_len {i : Nat} (hv : xs[i]? = some v) : i < xs.length := (List.getElem?_eq_some_iff.mp hv).1
theorem own_ldI (X : Stand p l e R s m args below meth c T locs cells slots) (hx : p.tables.exec = Jvm.exec) (hZ : Z.Warmed39 s.vm) (eT : T.heap = h) (A : AL Z h a .int xs) {j : Int32} (i : Nat) (hj : j.toInt = i) (hv : xs[i]? = some v) {g : JFrame} (hg : g.method = m) {rest : List Value} (hs : g.stack = .int j :: .ref a :: rest) (hd : decode c.code g.pc = .ok (.iaload, 1)) :
    ∀ target, Steps p.tables e below (T.setTop { g with pc := g.pc + 1, stack := v :: rest }) target → Steps p.tables e below (T.setTop g) target := by
  obtain ⟨cl, A1, A2, A3⟩ := A
  obtain ⟨q1, q2⟩ := own_idx A2 hj (own_lt_len hv)
  exact X.iaload hx (by rw [eT]; exact A1.1) (State.isArrayOf_alike hZ.alike A1.2.1) A1.2.2 q1 (by rw [q2, own_at A2]; exact hv) hg hs hd
theorem own_ldJ (X : Stand p l e R s m args below meth c T locs cells slots) (hx : p.tables.exec = Jvm.exec) (hZ : Z.Warmed39 s.vm) (eT : T.heap = h) (A : AL Z h a .long xs) {j : Int32} (i : Nat) (hj : j.toInt = i) (hv : xs[i]? = some v) {g : JFrame} (hg : g.method = m) {rest : List Value} (hs : g.stack = .int j :: .ref a :: rest) (hd : decode c.code g.pc = .ok (.laload, 1)) :
    ∀ target, Steps p.tables e below (T.setTop { g with pc := g.pc + 1, stack := v :: rest }) target → Steps p.tables e below (T.setTop g) target := by
  obtain ⟨cl, A1, A2, A3⟩ := A
  obtain ⟨q1, q2⟩ := own_idx A2 hj (own_lt_len hv)
  exact X.laload hx (by rw [eT]; exact A1.1) (State.isArrayOf_alike hZ.alike A1.2.1) A1.2.2 q1 (by rw [q2, own_at A2]; exact hv) hg hs hd
theorem own_ldB (X : Stand p l e R s m args below meth c T locs cells slots) (hx : p.tables.exec = Jvm.exec) (hZ : Z.Warmed39 s.vm) (eT : T.heap = h) (A : AL Z h a .byte xs) {j : Int32} (i : Nat) (hj : j.toInt = i) (hv : xs[i]? = some v) {g : JFrame} (hg : g.method = m) {rest : List Value} (hs : g.stack = .int j :: .ref a :: rest) (hd : decode c.code g.pc = .ok (.baload, 1)) :
    ∀ target, Steps p.tables e below (T.setTop { g with pc := g.pc + 1, stack := v :: rest }) target → Steps p.tables e below (T.setTop g) target := by
  obtain ⟨cl, A1, A2, A3⟩ := A
  obtain ⟨q1, q2⟩ := own_idx A2 hj (own_lt_len hv)
  exact X.baloadBytes hx (by rw [eT]; exact A1.1) (State.isArrayOf_alike hZ.alike A1.2.1) A1.2.2 q1 (by rw [q2, own_at A2]; exact hv) hg hs hd
theorem own_ldZ (X : Stand p l e R s m args below meth c T locs cells slots) (hx : p.tables.exec = Jvm.exec) (hZ : Z.Warmed39 s.vm) (eT : T.heap = h) (A : AL Z h a .boolean xs) {j : Int32} (i : Nat) (hj : j.toInt = i) (hv : xs[i]? = some v) {g : JFrame} (hg : g.method = m) {rest : List Value} (hs : g.stack = .int j :: .ref a :: rest) (hd : decode c.code g.pc = .ok (.baload, 1)) :
    ∀ target, Steps p.tables e below (T.setTop { g with pc := g.pc + 1, stack := v :: rest }) target → Steps p.tables e below (T.setTop g) target := by
  obtain ⟨cl, A1, A2, A3⟩ := A
  obtain ⟨q1, q2⟩ := own_idx A2 hj (own_lt_len hv)
  exact X.baloadBooleans hx (by rw [eT]; exact A1.1) (State.isArrayOf_alike hZ.alike A1.2.1) A1.2.2 q1 (by rw [q2, own_at A2]; exact hv) hg hs hd
theorem own_ldC (X : Stand p l e R s m args below meth c T locs cells slots) (hx : p.tables.exec = Jvm.exec) (hZ : Z.Warmed39 s.vm) (eT : T.heap = h) (A : AL Z h a .char xs) {j : Int32} (i : Nat) (hj : j.toInt = i) (hv : xs[i]? = some v) {g : JFrame} (hg : g.method = m) {rest : List Value} (hs : g.stack = .int j :: .ref a :: rest) (hd : decode c.code g.pc = .ok (.caload, 1)) :
    ∀ target, Steps p.tables e below (T.setTop { g with pc := g.pc + 1, stack := v :: rest }) target → Steps p.tables e below (T.setTop g) target := by
  obtain ⟨cl, A1, A2, A3⟩ := A
  obtain ⟨q1, q2⟩ := own_idx A2 hj (own_lt_len hv)
  exact X.caload hx (by rw [eT]; exact A1.1) (State.isArrayOf_alike hZ.alike A1.2.1) A1.2.2 q1 (by rw [q2, own_at A2]; exact hv) hg hs hd
theorem own_ldA (X : Stand p l e R s m args below meth c T locs cells slots) (hx : p.tables.exec = Jvm.exec) (hZ : Z.Warmed39 s.vm) (eT : T.heap = h) (A : AL Z h a ty xs) (hty : ty.isReference = true) {j : Int32} (i : Nat) (hj : j.toInt = i) (hv : xs[i]? = some v) {g : JFrame} (hg : g.method = m) {rest : List Value} (hs : g.stack = .int j :: .ref a :: rest) (hd : decode c.code g.pc = .ok (.aaload, 1)) :
    ∀ target, Steps p.tables e below (T.setTop { g with pc := g.pc + 1, stack := v :: rest }) target → Steps p.tables e below (T.setTop g) target := by
  obtain ⟨cl, A1, A2, A3⟩ := A
  obtain ⟨q1, q2⟩ := own_idx A2 hj (own_lt_len hv)
  exact X.aaload hx (by rw [eT]; exact A1.1) (State.isArrayOf_alike hZ.alike A1.2.1) hty A1.2.2 q1 (by rw [q2, own_at A2]; exact hv) hg hs hd
theorem own_len (X : Stand p l e R s m args below meth c T locs cells slots) (hx : p.tables.exec = Jvm.exec) (hZ : Z.Warmed39 s.vm) (eT : T.heap = h) (A : AL Z h a ty xs) {z : Int32} (hz : z.toInt = xs.length) {g : JFrame} (hg : g.method = m) {rest : List Value} (hs : g.stack = .ref a :: rest) (hd : decode c.code g.pc = .ok (.arraylength, 1)) :
    ∀ target, Steps p.tables e below (T.setTop { g with pc := g.pc + 1, stack := .int z :: rest }) target → Steps p.tables e below (T.setTop g) target := by
  obtain ⟨cl, A1, A2, A3⟩ := A
  have h2 : cl.slots.size = xs.length := by rw [← A2]; simp
  have e1 : cl.slots.size.toInt32 = z := Int32.toInt_inj.mp (by rw [len_toInt (by omega), hz, h2])
  intro target k
  exact X.arraylength hx (by rw [eT]; exact A1.1) (State.isArrayOf_alike hZ.alike A1.2.1) hg hs hd target (by rw [e1]; exact k)
end Own

theorem own_nar1 : nar .boolean (1 : Int32) = 1 := rfl
theorem own_nar0 : nar .boolean (0 : Int32) = 0 := rfl
def own_sw (lv r : Int32) : Int64 := if r = 0 then 1 <<< (lv &&& 0x3f).toInt64 else (1 <<< ((lv + 1) &&& 0x3f).toInt64) - 1
def own_tu (q : Int64) (r : Int32) : Int64 := (q <<< ((1 : Int32) &&& 0x3f).toInt64) ||| (if r = 0 then (0 : Int32) else 1).toInt64
theorem own_bit {c : Prop} [Decidable c] {r : Int32} (h : r = if c then 0 else 1) : r = 0 ∨ r = 1 := by
  by_cases q : c
  · rw [if_pos q] at h; exact Or.inl h
  · rw [if_neg q] at h; exact Or.inr h
theorem own_lv (x : Int32) : ∃ k : Fin 63, (x &&& 2147483647) % 63 = Int32.ofNat k.val := by
  have h1 := c_and x 2147483647 (by decide)
  have h2 := (c_irem (x &&& 2147483647) 63 63 rfl).1 h1.1
  refine ⟨⟨((x &&& 2147483647) % 63).toInt.toNat, by omega⟩, Int32.toInt_inj.mp ?_⟩
  rw [Int32.toInt_ofNat_of_lt (by show ((x &&& 2147483647) % 63).toInt.toNat < _; omega)]
  show _ = (((x &&& 2147483647) % 63).toInt.toNat : Int)
  omega
theorem own_p0 : ∀ r ∈ [(0 : Int32), 1], own_sw 0 r = 1 := by decide +kernel
theorem own_p : ∀ k : Fin 63, ∀ r ∈ [(0 : Int32), 1], (Int32.ofNat k.val ≠ 0 → own_sw (Int32.ofNat k.val) r = own_tu (own_sw (Int32.ofNat k.val - 1) r) r) ∧ ((own_sw (Int32.ofNat k.val) r).toUInt64 >>> ((Int32.ofNat k.val) &&& 0x3f).toInt64.toUInt64).toInt64 = 1 := by decide +kernel
theorem own_in {r : Int32} (h : r = 0 ∨ r = 1) : r ∈ [(0 : Int32), 1] := by rcases h with rfl | rfl <;> simp
theorem own_step {x lv r : Int32} (h : lv = (x &&& 2147483647) % 63) (hr : r = 0 ∨ r = 1) (h0 : ¬ lv = 0) : own_sw lv r = own_tu (own_sw (lv - 1) r) r := by
  obtain ⟨k, hk⟩ := own_lv x
  rw [hk] at h; subst h; exact (own_p k r (own_in hr)).1 h0
theorem own_mark {x lv r : Int32} (h : lv = (x &&& 2147483647) % 63) (hr : r = 0 ∨ r = 1) : ((own_sw lv r).toUInt64 >>> (lv &&& 0x3f).toInt64.toUInt64).toInt64 = 1 := by
  obtain ⟨k, hk⟩ := own_lv x
  rw [hk] at h; subst h; exact (own_p k r (own_in hr)).2
theorem own_zero {lv r : Int32} (hr : r = 0 ∨ r = 1) (h0 : lv = 0) : own_sw lv r = 1 := by subst h0; exact own_p0 r (own_in hr)
theorem d1_0 : decode prog_3_method_12_code 0 = .ok (.iload_n 1, 1) := by decide +kernel
theorem d1_1 : decode prog_3_method_12_code 1 = .ok (.ifCond .eq 13, 3) := by decide +kernel
theorem d1_4 : decode prog_3_method_12_code 4 = .ok (.lconst 1, 1) := by decide +kernel
theorem d1_5 : decode prog_3_method_12_code 5 = .ok (.iload_n 0, 1) := by decide +kernel
theorem d1_6 : decode prog_3_method_12_code 6 = .ok (.iconst 1, 1) := by decide +kernel
theorem d1_7 : decode prog_3_method_12_code 7 = .ok (.iadd, 1) := by decide +kernel
theorem d1_8 : decode prog_3_method_12_code 8 = .ok (.lshl, 1) := by decide +kernel
theorem d1_9 : decode prog_3_method_12_code 9 = .ok (.lconst 1, 1) := by decide +kernel
theorem d1_10 : decode prog_3_method_12_code 10 = .ok (.lsub, 1) := by decide +kernel
theorem d1_11 : decode prog_3_method_12_code 11 = .ok (.goto 6, 3) := by decide +kernel
theorem d1_14 : decode prog_3_method_12_code 14 = .ok (.lconst 1, 1) := by decide +kernel
theorem d1_15 : decode prog_3_method_12_code 15 = .ok (.iload_n 0, 1) := by decide +kernel
theorem d1_16 : decode prog_3_method_12_code 16 = .ok (.lshl, 1) := by decide +kernel
theorem d1_17 : decode prog_3_method_12_code 17 = .ok (.lreturn, 1) := by decide +kernel
theorem pn_0 : plainName "com/example/rowan/rowan/Fixup" = true := by first | (simp [plainName, overriddenIn]; done) | decide +kernel
theorem ef_1 (m : MethodId) (p0 : Int32) (p1 : Int32) : entryFrame m #[(.int p0), (.int p1)] 2 = mkF m 0 #[.val (.int p0), .val (.int p1)] [] := by first | (simp [entryFrame, mkF, argsToLocals, Value.category]; done) | rfl
def Q1 (Z : State) (p0 : Int32) (p1 : Int32) (h0 : Heap) (n0 : Nat) (v : Option Value) (h : Heap) (L : List Loc) : Prop := v = some (.long (own_sw p0 p1)) ∧ Fr n0 L ∧ h = h0
set_option maxRecDepth 65536 in
set_option maxHeartbeats 40000000 in
theorem rm1 (l : Launch) (Z : State) (a0 : Array Value) (hw : ∀ d ∈ tables_1, d.before a0 Z = true) (ws : List Jvm.Cond) (p0 : Int32) (p1 : Int32) (h0 : Heap) (n0 : Nat) (Z0 : n0 ≤ h0.size) :
    MetFree l (⟨"com/example/rowan/rowan/Fixup", "straightWay", "(IZ)J"⟩ : MethodName) (head1 (Jvm.Cond.code (⟨"com/example/rowan/rowan/Fixup", "straightWay", "(IZ)J"⟩ : MethodName) prog_3_method_12_code 2 (some .long) :: ws) ({ frames := 0, cells := 0, slots := 0, locals := 0 } : Room)) (fun a U => a = #[(.int p0), (.int p1)] ∧ Z.Warmed39 U.vm ∧ U.heap = h0) (fun _ _ _ _ _ => True) (fun _ U o U' => ∃ v L, o = .returned v ∧ Q1 Z p0 p1 h0 n0 v U'.heap L ∧ FrameEnd U o U' L ({ frames := 0, cells := 0, slots := 0, locals := 0 } : Room).cells ({ frames := 0, cells := 0, slots := 0, locals := 0 } : Room).slots) := by
  refine MetFree.of_bodySF (plainFor_of_name pn_0) hisR ?_
  intro p e s m args below meth c s₁ Bd hml0 hP hK
  obtain ⟨rfl, hZ, hh⟩ := hP
  have hx := Bd.exec
  have hby := Bd.bytes
  have hml : c.maxLocals = 2 := hml0
  have hown : s.vm.findClass "com/example/rowan/rowan/Fixup" = some m.cls := findClass_of_methodNamed Bd.named
  have hnm := (name_of_methodNamed Bd.named Bd.method).1
  have hlk : meth.locks = false := Bd.notSynchronized
  have X0 : Stand p l e ({ frames := 0, cells := 0, slots := 0, locals := 0 } : Room) s m #[(.int p0), (.int p1)] below meth c s₁ [] 0 0 := Stand.of_body Bd
  have e0 : s₁.heap = h0 := by rw [← hh, Bd.state]; rfl
  have N0 := Fr.nil n0
  show OwnEnds p.tables e below (OwnQ s ({ frames := 0, cells := 0, slots := 0, locals := 0 } : Room).cells ({ frames := 0, cells := 0, slots := 0, locals := 0 } : Room).slots (Q1 Z p0 p1 h0 n0)) (s₁.setTop (entryFrame m #[(.int p0), (.int p1)] 2))
  refine own_via (fun t k => castTop (ef_1 m p0 p1) k) ?_
  show OwnEnds p.tables e below _ (s₁.setTop (mkF m 0 #[.val (.int p0), .val (.int p1)] []))
  refine own_via (fun t k => XS.iloadN X0.here hx rfl (hb hby d1_0) rfl k) ?_
  show OwnEnds p.tables e below _ (s₁.setTop (mkF m 1 #[.val (.int p0), .val (.int p1)] [(.int p1)]))
  by_cases hc1_1 : p1 = (0 : Int32)
  · skip
    refine own_via (fun t k => XS.ifYes X0.here hx rfl (pc0 := 1) (pc' := 14) rfl (hb hby d1_1) rfl ((if0 _ _).trans (teq hc1_1).1) (by decide) (by decide) k) ?_
    show OwnEnds p.tables e below _ (s₁.setTop (mkF m 14 #[.val (.int p0), .val (.int p1)] []))
    refine own_via (fun t k => XS.lconst X0.here hx rfl (hb hby d1_14) k) ?_
    show OwnEnds p.tables e below _ (s₁.setTop (mkF m 15 #[.val (.int p0), .val (.int p1)] [(.long (1 : Int64))]))
    refine own_via (fun t k => XS.iloadN X0.here hx rfl (hb hby d1_15) rfl k) ?_
    show OwnEnds p.tables e below _ (s₁.setTop (mkF m 16 #[.val (.int p0), .val (.int p1)] [(.int p0), (.long (1 : Int64))]))
    refine own_via (fun t k => XS.lshl X0.here hx rfl (hb hby d1_16) rfl k) ?_
    show OwnEnds p.tables e below _ (s₁.setTop (mkF m 17 #[.val (.int p0), .val (.int p1)] [(.long ((1 : Int64) <<< (p0 &&& 0x3f).toInt64))]))
    refine own_retJ X0 hx Bd.returns hlk (hb hby d1_17) ?_ (by decide) (by decide)
    rw [e0]
    exact ⟨congrArg (fun z => some (Value.long z)) (show ((1 : Int64) <<< (p0 &&& 0x3f).toInt64) = own_sw p0 p1 by simp only [own_sw, if_pos hc1_1]), N0, rfl⟩
  · skip
    refine own_via (fun t k => XS.ifNo X0.here hx rfl (hb hby d1_1) rfl ((if0 _ _).trans (feq hc1_1).1) k) ?_
    show OwnEnds p.tables e below _ (s₁.setTop (mkF m 4 #[.val (.int p0), .val (.int p1)] []))
    refine own_via (fun t k => XS.lconst X0.here hx rfl (hb hby d1_4) k) ?_
    show OwnEnds p.tables e below _ (s₁.setTop (mkF m 5 #[.val (.int p0), .val (.int p1)] [(.long (1 : Int64))]))
    refine own_via (fun t k => XS.iloadN X0.here hx rfl (hb hby d1_5) rfl k) ?_
    show OwnEnds p.tables e below _ (s₁.setTop (mkF m 6 #[.val (.int p0), .val (.int p1)] [(.int p0), (.long (1 : Int64))]))
    refine own_via (fun t k => XS.iconst X0.here hx rfl (hb hby d1_6) k) ?_
    show OwnEnds p.tables e below _ (s₁.setTop (mkF m 7 #[.val (.int p0), .val (.int p1)] [(.int (1 : Int32)), (.int p0), (.long (1 : Int64))]))
    refine own_via (fun t k => XS.iadd X0.here hx rfl (hb hby d1_7) rfl k) ?_
    show OwnEnds p.tables e below _ (s₁.setTop (mkF m 8 #[.val (.int p0), .val (.int p1)] [(.int (p0 + (1 : Int32))), (.long (1 : Int64))]))
    refine own_via (fun t k => XS.lshl X0.here hx rfl (hb hby d1_8) rfl k) ?_
    show OwnEnds p.tables e below _ (s₁.setTop (mkF m 9 #[.val (.int p0), .val (.int p1)] [(.long ((1 : Int64) <<< ((p0 + (1 : Int32)) &&& 0x3f).toInt64))]))
    refine own_via (fun t k => XS.lconst X0.here hx rfl (hb hby d1_9) k) ?_
    show OwnEnds p.tables e below _ (s₁.setTop (mkF m 10 #[.val (.int p0), .val (.int p1)] [(.long (1 : Int64)), (.long ((1 : Int64) <<< ((p0 + (1 : Int32)) &&& 0x3f).toInt64))]))
    refine own_via (fun t k => XS.lsub X0.here hx rfl (hb hby d1_10) rfl k) ?_
    show OwnEnds p.tables e below _ (s₁.setTop (mkF m 11 #[.val (.int p0), .val (.int p1)] [(.long (((1 : Int64) <<< ((p0 + (1 : Int32)) &&& 0x3f).toInt64) - (1 : Int64)))]))
    refine own_via (fun t k => XS.goto X0.here hx rfl (pc0 := 11) (pc' := 17) rfl (hb hby d1_11) (by decide) (by decide) k) ?_
    show OwnEnds p.tables e below _ (s₁.setTop (mkF m 17 #[.val (.int p0), .val (.int p1)] [(.long (((1 : Int64) <<< ((p0 + (1 : Int32)) &&& 0x3f).toInt64) - (1 : Int64)))]))
    refine own_retJ X0 hx Bd.returns hlk (hb hby d1_17) ?_ (by decide) (by decide)
    rw [e0]
    exact ⟨congrArg (fun z => some (Value.long z)) (show (((1 : Int64) <<< ((p0 + (1 : Int32)) &&& 0x3f).toInt64) - (1 : Int64)) = own_sw p0 p1 by simp only [own_sw, if_neg hc1_1]), N0, rfl⟩
theorem d2_0 : decode prog_3_method_11_code 0 = .ok (.lload_n 0, 1) := by decide +kernel
theorem d2_1 : decode prog_3_method_11_code 1 = .ok (.iconst 1, 1) := by decide +kernel
theorem d2_2 : decode prog_3_method_11_code 2 = .ok (.lshl, 1) := by decide +kernel
theorem d2_3 : decode prog_3_method_11_code 3 = .ok (.iload_n 2, 1) := by decide +kernel
theorem d2_4 : decode prog_3_method_11_code 4 = .ok (.ifCond .eq 7, 3) := by decide +kernel
theorem d2_7 : decode prog_3_method_11_code 7 = .ok (.iconst 1, 1) := by decide +kernel
theorem d2_8 : decode prog_3_method_11_code 8 = .ok (.goto 4, 3) := by decide +kernel
theorem d2_11 : decode prog_3_method_11_code 11 = .ok (.iconst 0, 1) := by decide +kernel
theorem d2_12 : decode prog_3_method_11_code 12 = .ok (.i2l, 1) := by decide +kernel
theorem d2_13 : decode prog_3_method_11_code 13 = .ok (.lor, 1) := by decide +kernel
theorem d2_14 : decode prog_3_method_11_code 14 = .ok (.lreturn, 1) := by decide +kernel
theorem ef_2 (m : MethodId) (q0 : Int64) (p1 : Int32) : entryFrame m #[(.long q0), (.int p1)] 3 = mkF m 0 #[.val (.long q0), .second, .val (.int p1)] [] := by first | (simp [entryFrame, mkF, argsToLocals, Value.category]; done) | rfl
def Q2 (Z : State) (q0 : Int64) (p1 : Int32) (h0 : Heap) (n0 : Nat) (v : Option Value) (h : Heap) (L : List Loc) : Prop := v = some (.long (own_tu q0 p1)) ∧ Fr n0 L ∧ h = h0
set_option maxRecDepth 65536 in
set_option maxHeartbeats 40000000 in
theorem rm2 (l : Launch) (Z : State) (a0 : Array Value) (hw : ∀ d ∈ tables_1, d.before a0 Z = true) (ws : List Jvm.Cond) (q0 : Int64) (p1 : Int32) (h0 : Heap) (n0 : Nat) (Z0 : n0 ≤ h0.size) :
    MetFree l (⟨"com/example/rowan/rowan/Fixup", "turned", "(JZ)J"⟩ : MethodName) (head1 (Jvm.Cond.code (⟨"com/example/rowan/rowan/Fixup", "turned", "(JZ)J"⟩ : MethodName) prog_3_method_11_code 3 (some .long) :: ws) ({ frames := 0, cells := 0, slots := 0, locals := 0 } : Room)) (fun a U => a = #[(.long q0), (.int p1)] ∧ Z.Warmed39 U.vm ∧ U.heap = h0) (fun _ _ _ _ _ => True) (fun _ U o U' => ∃ v L, o = .returned v ∧ Q2 Z q0 p1 h0 n0 v U'.heap L ∧ FrameEnd U o U' L ({ frames := 0, cells := 0, slots := 0, locals := 0 } : Room).cells ({ frames := 0, cells := 0, slots := 0, locals := 0 } : Room).slots) := by
  refine MetFree.of_bodySF (plainFor_of_name pn_0) hisR ?_
  intro p e s m args below meth c s₁ Bd hml0 hP hK
  obtain ⟨rfl, hZ, hh⟩ := hP
  have hx := Bd.exec
  have hby := Bd.bytes
  have hml : c.maxLocals = 3 := hml0
  have hown : s.vm.findClass "com/example/rowan/rowan/Fixup" = some m.cls := findClass_of_methodNamed Bd.named
  have hnm := (name_of_methodNamed Bd.named Bd.method).1
  have hlk : meth.locks = false := Bd.notSynchronized
  have X0 : Stand p l e ({ frames := 0, cells := 0, slots := 0, locals := 0 } : Room) s m #[(.long q0), (.int p1)] below meth c s₁ [] 0 0 := Stand.of_body Bd
  have e0 : s₁.heap = h0 := by rw [← hh, Bd.state]; rfl
  have N0 := Fr.nil n0
  show OwnEnds p.tables e below (OwnQ s ({ frames := 0, cells := 0, slots := 0, locals := 0 } : Room).cells ({ frames := 0, cells := 0, slots := 0, locals := 0 } : Room).slots (Q2 Z q0 p1 h0 n0)) (s₁.setTop (entryFrame m #[(.long q0), (.int p1)] 3))
  refine own_via (fun t k => castTop (ef_2 m q0 p1) k) ?_
  show OwnEnds p.tables e below _ (s₁.setTop (mkF m 0 #[.val (.long q0), .second, .val (.int p1)] []))
  refine own_via (fun t k => XS.lloadN X0.here hx rfl (hb hby d2_0) rfl k) ?_
  show OwnEnds p.tables e below _ (s₁.setTop (mkF m 1 #[.val (.long q0), .second, .val (.int p1)] [(.long q0)]))
  refine own_via (fun t k => XS.iconst X0.here hx rfl (hb hby d2_1) k) ?_
  show OwnEnds p.tables e below _ (s₁.setTop (mkF m 2 #[.val (.long q0), .second, .val (.int p1)] [(.int (1 : Int32)), (.long q0)]))
  refine own_via (fun t k => XS.lshl X0.here hx rfl (hb hby d2_2) rfl k) ?_
  show OwnEnds p.tables e below _ (s₁.setTop (mkF m 3 #[.val (.long q0), .second, .val (.int p1)] [(.long (q0 <<< ((1 : Int32) &&& 0x3f).toInt64))]))
  refine own_via (fun t k => XS.iloadN X0.here hx rfl (hb hby d2_3) rfl k) ?_
  show OwnEnds p.tables e below _ (s₁.setTop (mkF m 4 #[.val (.long q0), .second, .val (.int p1)] [(.int p1), (.long (q0 <<< ((1 : Int32) &&& 0x3f).toInt64))]))
  by_cases hc4_1 : p1 = (0 : Int32)
  · skip
    refine own_via (fun t k => XS.ifYes X0.here hx rfl (pc0 := 4) (pc' := 11) rfl (hb hby d2_4) rfl ((if0 _ _).trans (teq hc4_1).1) (by decide) (by decide) k) ?_
    show OwnEnds p.tables e below _ (s₁.setTop (mkF m 11 #[.val (.long q0), .second, .val (.int p1)] [(.long (q0 <<< ((1 : Int32) &&& 0x3f).toInt64))]))
    refine own_via (fun t k => XS.iconst X0.here hx rfl (hb hby d2_11) k) ?_
    show OwnEnds p.tables e below _ (s₁.setTop (mkF m 12 #[.val (.long q0), .second, .val (.int p1)] [(.int (0 : Int32)), (.long (q0 <<< ((1 : Int32) &&& 0x3f).toInt64))]))
    refine own_via (fun t k => XS.i2l X0.here hx rfl (hb hby d2_12) rfl k) ?_
    show OwnEnds p.tables e below _ (s₁.setTop (mkF m 13 #[.val (.long q0), .second, .val (.int p1)] [(.long ((0 : Int32).toInt64)), (.long (q0 <<< ((1 : Int32) &&& 0x3f).toInt64))]))
    refine own_via (fun t k => XS.lor X0.here hx rfl (hb hby d2_13) rfl k) ?_
    show OwnEnds p.tables e below _ (s₁.setTop (mkF m 14 #[.val (.long q0), .second, .val (.int p1)] [(.long ((q0 <<< ((1 : Int32) &&& 0x3f).toInt64) ||| ((0 : Int32).toInt64)))]))
    refine own_retJ X0 hx Bd.returns hlk (hb hby d2_14) ?_ (by decide) (by decide)
    rw [e0]
    exact ⟨congrArg (fun z => some (Value.long z)) (show ((q0 <<< ((1 : Int32) &&& 0x3f).toInt64) ||| ((0 : Int32).toInt64)) = own_tu q0 p1 by simp only [own_tu, if_pos hc4_1]), N0, rfl⟩
  · skip
    refine own_via (fun t k => XS.ifNo X0.here hx rfl (hb hby d2_4) rfl ((if0 _ _).trans (feq hc4_1).1) k) ?_
    show OwnEnds p.tables e below _ (s₁.setTop (mkF m 7 #[.val (.long q0), .second, .val (.int p1)] [(.long (q0 <<< ((1 : Int32) &&& 0x3f).toInt64))]))
    refine own_via (fun t k => XS.iconst X0.here hx rfl (hb hby d2_7) k) ?_
    show OwnEnds p.tables e below _ (s₁.setTop (mkF m 8 #[.val (.long q0), .second, .val (.int p1)] [(.int (1 : Int32)), (.long (q0 <<< ((1 : Int32) &&& 0x3f).toInt64))]))
    refine own_via (fun t k => XS.goto X0.here hx rfl (pc0 := 8) (pc' := 12) rfl (hb hby d2_8) (by decide) (by decide) k) ?_
    show OwnEnds p.tables e below _ (s₁.setTop (mkF m 12 #[.val (.long q0), .second, .val (.int p1)] [(.int (1 : Int32)), (.long (q0 <<< ((1 : Int32) &&& 0x3f).toInt64))]))
    refine own_via (fun t k => XS.i2l X0.here hx rfl (hb hby d2_12) rfl k) ?_
    show OwnEnds p.tables e below _ (s₁.setTop (mkF m 13 #[.val (.long q0), .second, .val (.int p1)] [(.long ((1 : Int32).toInt64)), (.long (q0 <<< ((1 : Int32) &&& 0x3f).toInt64))]))
    refine own_via (fun t k => XS.lor X0.here hx rfl (hb hby d2_13) rfl k) ?_
    show OwnEnds p.tables e below _ (s₁.setTop (mkF m 14 #[.val (.long q0), .second, .val (.int p1)] [(.long ((q0 <<< ((1 : Int32) &&& 0x3f).toInt64) ||| ((1 : Int32).toInt64)))]))
    refine own_retJ X0 hx Bd.returns hlk (hb hby d2_14) ?_ (by decide) (by decide)
    rw [e0]
    exact ⟨congrArg (fun z => some (Value.long z)) (show ((q0 <<< ((1 : Int32) &&& 0x3f).toInt64) ||| ((1 : Int32).toInt64)) = own_tu q0 p1 by simp only [own_tu, if_neg hc4_1]), N0, rfl⟩
theorem pn_1 : plainName "com/example/rowan/rowan/FixupStraightWayPinLaw" = true := by first | (simp [plainName, overriddenIn]; done) | decide +kernel
theorem ef_0 (m : MethodId) (p0 : Int32) (p1 : Int32) : entryFrame m #[(.int p0), (.int p1)] maxLocals = mkF m 0 #[.val (.int p0), .val (.int p1), .unset, .unset, .unset, .unset, .unset, .unset, .unset, .unset] [] := by first | (simp [entryFrame, mkF, argsToLocals, Value.category, maxLocals]; done) | rfl
def Q0 (Z : State) (p0 : Int32) (p1 : Int32) (h0 : Heap) (n0 : Nat) (v : Option Value) (h : Heap) (L : List Loc) : Prop := v = some (.int 1) ∧ Fr n0 L
theorem pd_0 : parseMethodDescriptor "(IZ)J" = some ⟨[.int, .boolean], some .long⟩ := by decide +kernel
theorem pd_1 : parseMethodDescriptor "(JZ)J" = some ⟨[.long, .boolean], some .long⟩ := by decide +kernel
set_option maxRecDepth 65536 in
set_option maxHeartbeats 40000000 in
theorem rm0 (l : Launch) (Z : State) (a0 : Array Value) (hw : ∀ d ∈ tables_1, d.before a0 Z = true) (ws : List Jvm.Cond) (p0 : Int32) (p1 : Int32) (h0 : Heap) (n0 : Nat) (Z0 : n0 ≤ h0.size) :
    MetFree l x (head1 (Jvm.Cond.code x code maxLocals ret :: ws) room_1) (fun a U => a = #[(.int p0), (.int p1)] ∧ Z.Warmed39 U.vm ∧ U.heap = h0) (fun _ _ _ _ _ => True) (fun _ U o U' => ∃ v L, o = .returned v ∧ Q0 Z p0 p1 h0 n0 v U'.heap L ∧ FrameEnd U o U' L 0 0) := by
  refine MetFree.of_bodySF (plainFor_of_name pn_1) hisR ?_
  intro p e s m args below meth c s₁ Bd hml0 hP hK
  obtain ⟨rfl, hZ, hh⟩ := hP
  have hx := Bd.exec
  have hby := Bd.bytes
  have hml : c.maxLocals = 10 := hml0
  have hown : s.vm.findClass "com/example/rowan/rowan/FixupStraightWayPinLaw" = some m.cls := findClass_of_methodNamed Bd.named
  have hnm := (name_of_methodNamed Bd.named Bd.method).1
  have hlk : meth.locks = false := Bd.notSynchronized
  have X0 : Stand p l e room_1 s m #[(.int p0), (.int p1)] below meth c s₁ [] 0 0 := Stand.of_body Bd
  have e0 : s₁.heap = h0 := by rw [← hh, Bd.state]; rfl
  have N0 := Fr.nil n0
  show OwnEnds p.tables e below (OwnQ s 0 0 (Q0 Z p0 p1 h0 n0)) (s₁.setTop (entryFrame m #[(.int p0), (.int p1)] maxLocals))
  refine own_via (fun t k => castTop (ef_0 m p0 p1) k) ?_
  show OwnEnds p.tables e below _ (s₁.setTop (mkF m 0 #[.val (.int p0), .val (.int p1), .unset, .unset, .unset, .unset, .unset, .unset, .unset, .unset] []))
  refine own_via (fun t k => XS.iloadN X0.here hx rfl (hb hby at_0) rfl k) ?_
  show OwnEnds p.tables e below _ (s₁.setTop (mkF m 1 #[.val (.int p0), .val (.int p1), .unset, .unset, .unset, .unset, .unset, .unset, .unset, .unset] [(.int p0)]))
  refine own_via (X0.ldcInt hx hown (mvT hZ (hw _ (List.mem_of_getElem? (i := 0) rfl))) (g := (mkF m 1 #[.val (.int p0), .val (.int p1), .unset, .unset, .unset, .unset, .unset, .unset, .unset, .unset] [(.int p0)])) rfl (hb hby at_1)) ?_
  show OwnEnds p.tables e below _ (s₁.setTop (mkF m 3 #[.val (.int p0), .val (.int p1), .unset, .unset, .unset, .unset, .unset, .unset, .unset, .unset] [(.int (2147483647 : Int32)), (.int p0)]))
  refine own_via (fun t k => XS.iand X0.here hx rfl (hb hby at_3) rfl k) ?_
  show OwnEnds p.tables e below _ (s₁.setTop (mkF m 4 #[.val (.int p0), .val (.int p1), .unset, .unset, .unset, .unset, .unset, .unset, .unset, .unset] [(.int (p0 &&& (2147483647 : Int32)))]))
  refine own_via (fun t k => XS.bipush X0.here hx rfl (hb hby at_4) k) ?_
  show OwnEnds p.tables e below _ (s₁.setTop (mkF m 6 #[.val (.int p0), .val (.int p1), .unset, .unset, .unset, .unset, .unset, .unset, .unset, .unset] [(.int (63 : Int32)), (.int (p0 &&& (2147483647 : Int32)))]))
  refine own_via (fun t k => Jvm.RoadKit.iremM X0 hx rfl (hb hby at_6) rfl (by decide) k) ?_
  show OwnEnds p.tables e below _ (s₁.setTop (mkF m 7 #[.val (.int p0), .val (.int p1), .unset, .unset, .unset, .unset, .unset, .unset, .unset, .unset] [(.int ((p0 &&& (2147483647 : Int32)) % (63 : Int32)))]))
  obtain ⟨lv, h_lv⟩ : ∃ z, z = ((p0 &&& (2147483647 : Int32)) % (63 : Int32)) := ⟨_, rfl⟩
  rw [← h_lv]
  refine own_via (fun t k => XS.istoreN X0.here hx rfl (hb hby at_7) rfl (l' := #[.val (.int p0), .val (.int p1), .val (.int lv), .unset, .unset, .unset, .unset, .unset, .unset, .unset]) rfl k) ?_
  show OwnEnds p.tables e below _ (s₁.setTop (mkF m 8 #[.val (.int p0), .val (.int p1), .val (.int lv), .unset, .unset, .unset, .unset, .unset, .unset, .unset] []))
  refine own_via (fun t k => XS.iloadN X0.here hx rfl (hb hby at_8) rfl k) ?_
  show OwnEnds p.tables e below _ (s₁.setTop (mkF m 9 #[.val (.int p0), .val (.int p1), .val (.int lv), .unset, .unset, .unset, .unset, .unset, .unset, .unset] [(.int p1)]))
  refine own_via (fun t k => XS.iconst X0.here hx rfl (hb hby at_9) k) ?_
  show OwnEnds p.tables e below _ (s₁.setTop (mkF m 10 #[.val (.int p0), .val (.int p1), .val (.int lv), .unset, .unset, .unset, .unset, .unset, .unset, .unset] [(.int (1 : Int32)), (.int p1)]))
  refine own_via (fun t k => XS.iand X0.here hx rfl (hb hby at_10) rfl k) ?_
  show OwnEnds p.tables e below _ (s₁.setTop (mkF m 11 #[.val (.int p0), .val (.int p1), .val (.int lv), .unset, .unset, .unset, .unset, .unset, .unset, .unset] [(.int (p1 &&& (1 : Int32)))]))
  have J19_1 : ∀ r : Int32, r = (if (p1 &&& (1 : Int32)) = (0 : Int32) then (0 : Int32) else (1 : Int32)) → OwnEnds p.tables e below (OwnQ s 0 0 (Q0 Z p0 p1 h0 n0)) (s₁.setTop (mkF m 19 #[.val (.int p0), .val (.int p1), .val (.int lv), .unset, .unset, .unset, .unset, .unset, .unset, .unset] [(.int r)])) := by
    intro r h_r
    have hr := own_bit h_r
    refine own_via (fun t k => XS.istoreN X0.here hx rfl (hb hby at_19) rfl (l' := #[.val (.int p0), .val (.int p1), .val (.int lv), .val (.int r), .unset, .unset, .unset, .unset, .unset, .unset]) rfl k) ?_
    show OwnEnds p.tables e below _ (s₁.setTop (mkF m 20 #[.val (.int p0), .val (.int p1), .val (.int lv), .val (.int r), .unset, .unset, .unset, .unset, .unset, .unset] []))
    refine own_via (fun t k => XS.iloadN X0.here hx rfl (hb hby at_20) rfl k) ?_
    show OwnEnds p.tables e below _ (s₁.setTop (mkF m 21 #[.val (.int p0), .val (.int p1), .val (.int lv), .val (.int r), .unset, .unset, .unset, .unset, .unset, .unset] [(.int lv)]))
    refine own_via (fun t k => XS.iloadN X0.here hx rfl (hb hby at_21) rfl k) ?_
    show OwnEnds p.tables e below _ (s₁.setTop (mkF m 22 #[.val (.int p0), .val (.int p1), .val (.int lv), .val (.int r), .unset, .unset, .unset, .unset, .unset, .unset] [(.int r), (.int lv)]))
    obtain ⟨_, _, ⟨T2, L2, k2, n2⟩, -, X2, ⟨Lc2, hQ2, l2, y2, z2⟩, st2⟩ := Jvm.LawKit.callS X0 hx (y := (⟨"com/example/rowan/rowan/Fixup", "straightWay", "(IZ)J"⟩ : MethodName)) hown (mvT hZ (hw _ (List.mem_of_getElem? (i := 1) rfl))) (mvT hZ (hw _ (List.mem_of_getElem? (i := 2) rfl))) (mvT hZ (hw _ (List.mem_of_getElem? (i := 3) rfl))) (mvT hZ (hw _ (List.mem_of_getElem? (i := 4) rfl))) (by decide) (backOf (W := 0) (rm1 l Z a0 hw [] lv r h0 n0 Z0 ) hZ (hw _ (List.mem_of_getElem? (i := 4) rfl)) (hw _ (List.mem_of_getElem? (i := 3) rfl)) (by decide) (by decide)) (g := (mkF m 22 #[.val (.int p0), .val (.int p1), .val (.int lv), .val (.int r), .unset, .unset, .unset, .unset, .unset, .unset] [(.int r), (.int lv)])) rfl (by rw [hml]; rfl) (argsL := [(.int lv), (.int r)]) (rest := []) (lenOf pd_0 rfl) rfl (by show 2 * 0 + _ ≤ _; exact Nat.le_of_eq rfl) (hb hby at_22) (fun _ _ => ⟨rfl, e0, (by decide : 0 + 0 ≤ _), (by decide : 0 + 0 ≤ _)⟩)
    dsimp only [Pt.U, Pt.locs, Pt.cells, Pt.slots] at X2 l2 y2 z2 st2 hQ2
    subst l2 y2 z2
    obtain ⟨rfl, Nq2, e2⟩ := hQ2
    have N2 := Fr.app N0 Nq2
    replace e2 : T2.heap = h0 := e2
    refine own_via st2 ?_
    show OwnEnds p.tables e below _ (T2.setTop (mkF m 25 #[.val (.int p0), .val (.int p1), .val (.int lv), .val (.int r), .unset, .unset, .unset, .unset, .unset, .unset] [(.long (own_sw lv r))]))
    refine own_via (fun t k => XS.lstore X2.here hx rfl (hb hby at_25) rfl (l' := #[.val (.int p0), .val (.int p1), .val (.int lv), .val (.int r), .val (.long (own_sw lv r)), .second, .unset, .unset, .unset, .unset]) rfl k) ?_
    show OwnEnds p.tables e below _ (T2.setTop (mkF m 27 #[.val (.int p0), .val (.int p1), .val (.int lv), .val (.int r), .val (.long (own_sw lv r)), .second, .unset, .unset, .unset, .unset] []))
    refine own_via (fun t k => XS.iloadN X2.here hx rfl (hb hby at_27) rfl k) ?_
    show OwnEnds p.tables e below _ (T2.setTop (mkF m 28 #[.val (.int p0), .val (.int p1), .val (.int lv), .val (.int r), .val (.long (own_sw lv r)), .second, .unset, .unset, .unset, .unset] [(.int lv)]))
    by_cases hc28_3 : lv = (0 : Int32)
    · skip
      refine own_via (fun t k => XS.ifNo X2.here hx rfl (hb hby at_28) rfl ((if0 _ _).trans (teq hc28_3).2) k) ?_
      show OwnEnds p.tables e below _ (T2.setTop (mkF m 31 #[.val (.int p0), .val (.int p1), .val (.int lv), .val (.int r), .val (.long (own_sw lv r)), .second, .unset, .unset, .unset, .unset] []))
      refine own_via (fun t k => XS.lload X2.here hx rfl (hb hby at_31) rfl k) ?_
      show OwnEnds p.tables e below _ (T2.setTop (mkF m 33 #[.val (.int p0), .val (.int p1), .val (.int lv), .val (.int r), .val (.long (own_sw lv r)), .second, .unset, .unset, .unset, .unset] [(.long (own_sw lv r))]))
      refine own_via (fun t k => XS.lconst X2.here hx rfl (hb hby at_33) k) ?_
      show OwnEnds p.tables e below _ (T2.setTop (mkF m 34 #[.val (.int p0), .val (.int p1), .val (.int lv), .val (.int r), .val (.long (own_sw lv r)), .second, .unset, .unset, .unset, .unset] [(.long (1 : Int64)), (.long (own_sw lv r))]))
      refine own_via (fun t k => XS.lcmp X2.here hx rfl (hb hby at_34) rfl k) ?_
      show OwnEnds p.tables e below _ (T2.setTop (mkF m 35 #[.val (.int p0), .val (.int p1), .val (.int lv), .val (.int r), .val (.long (own_sw lv r)), .second, .unset, .unset, .unset, .unset] [(.int (lcmpW (own_sw lv r) (1 : Int64)))]))
      have hc35_4 : (own_sw lv r) = (1 : Int64) := own_zero hr hc28_3
      refine own_via (fun t k => XS.ifNo X2.here hx rfl (hb hby at_35) rfl (own_lc_eq_t hc35_4).2 k) ?_
      show OwnEnds p.tables e below _ (T2.setTop (mkF m 38 #[.val (.int p0), .val (.int p1), .val (.int lv), .val (.int r), .val (.long (own_sw lv r)), .second, .unset, .unset, .unset, .unset] []))
      refine own_via (fun t k => XS.iconst X2.here hx rfl (hb hby at_38) k) ?_
      show OwnEnds p.tables e below _ (T2.setTop (mkF m 39 #[.val (.int p0), .val (.int p1), .val (.int lv), .val (.int r), .val (.long (own_sw lv r)), .second, .unset, .unset, .unset, .unset] [(.int (1 : Int32))]))
      refine own_via (fun t k => XS.goto X2.here hx rfl (pc0 := 39) (pc' := 43) rfl (hb hby at_39) (by decide) (by decide) k) ?_
      show OwnEnds p.tables e below _ (T2.setTop (mkF m 43 #[.val (.int p0), .val (.int p1), .val (.int lv), .val (.int r), .val (.long (own_sw lv r)), .second, .unset, .unset, .unset, .unset] [(.int (1 : Int32))]))
      refine own_retN (t := .boolean) X2 hx Bd.returns (by simp) hlk (hb hby at_43) ?_ (by decide) (by decide)
      rw [e2]
      exact ⟨rfl, N2⟩
    · skip
      refine own_via (fun t k => XS.ifYes X2.here hx rfl (pc0 := 28) (pc' := 44) rfl (hb hby at_28) rfl ((if0 _ _).trans (feq hc28_3).2) (by decide) (by decide) k) ?_
      show OwnEnds p.tables e below _ (T2.setTop (mkF m 44 #[.val (.int p0), .val (.int p1), .val (.int lv), .val (.int r), .val (.long (own_sw lv r)), .second, .unset, .unset, .unset, .unset] []))
      refine own_via (fun t k => XS.iloadN X2.here hx rfl (hb hby at_44) rfl k) ?_
      show OwnEnds p.tables e below _ (T2.setTop (mkF m 45 #[.val (.int p0), .val (.int p1), .val (.int lv), .val (.int r), .val (.long (own_sw lv r)), .second, .unset, .unset, .unset, .unset] [(.int lv)]))
      refine own_via (fun t k => XS.iconst X2.here hx rfl (hb hby at_45) k) ?_
      show OwnEnds p.tables e below _ (T2.setTop (mkF m 46 #[.val (.int p0), .val (.int p1), .val (.int lv), .val (.int r), .val (.long (own_sw lv r)), .second, .unset, .unset, .unset, .unset] [(.int (1 : Int32)), (.int lv)]))
      refine own_via (fun t k => XS.isub X2.here hx rfl (hb hby at_46) rfl k) ?_
      show OwnEnds p.tables e below _ (T2.setTop (mkF m 47 #[.val (.int p0), .val (.int p1), .val (.int lv), .val (.int r), .val (.long (own_sw lv r)), .second, .unset, .unset, .unset, .unset] [(.int (lv - (1 : Int32)))]))
      refine own_via (fun t k => XS.iloadN X2.here hx rfl (hb hby at_47) rfl k) ?_
      show OwnEnds p.tables e below _ (T2.setTop (mkF m 48 #[.val (.int p0), .val (.int p1), .val (.int lv), .val (.int r), .val (.long (own_sw lv r)), .second, .unset, .unset, .unset, .unset] [(.int r), (.int (lv - (1 : Int32)))]))
      obtain ⟨_, _, ⟨T5, L5, k5, n5⟩, -, X5, ⟨Lc5, hQ5, l5, y5, z5⟩, st5⟩ := Jvm.LawKit.callS X2 hx (y := (⟨"com/example/rowan/rowan/Fixup", "straightWay", "(IZ)J"⟩ : MethodName)) hown (mvT hZ (hw _ (List.mem_of_getElem? (i := 1) rfl))) (mvT hZ (hw _ (List.mem_of_getElem? (i := 2) rfl))) (mvT hZ (hw _ (List.mem_of_getElem? (i := 3) rfl))) (mvT hZ (hw _ (List.mem_of_getElem? (i := 4) rfl))) (by decide) (backOf (W := 0) (rm1 l Z a0 hw [] (lv - (1 : Int32)) r h0 n0 Z0 ) hZ (hw _ (List.mem_of_getElem? (i := 4) rfl)) (hw _ (List.mem_of_getElem? (i := 3) rfl)) (by decide) (by decide)) (g := (mkF m 48 #[.val (.int p0), .val (.int p1), .val (.int lv), .val (.int r), .val (.long (own_sw lv r)), .second, .unset, .unset, .unset, .unset] [(.int r), (.int (lv - (1 : Int32)))])) rfl (by rw [hml]; rfl) (argsL := [(.int (lv - (1 : Int32))), (.int r)]) (rest := []) (lenOf pd_0 rfl) rfl (by show 2 * 0 + _ ≤ _; exact Nat.le_of_eq rfl) (hb hby at_48) (fun _ _ => ⟨rfl, e2, (by decide : 0 + 0 ≤ _), (by decide : 0 + 0 ≤ _)⟩)
      dsimp only [Pt.U, Pt.locs, Pt.cells, Pt.slots] at X5 l5 y5 z5 st5 hQ5
      subst l5 y5 z5
      obtain ⟨rfl, Nq5, e5⟩ := hQ5
      have N5 := Fr.app N2 Nq5
      replace e5 : T5.heap = h0 := e5
      refine own_via st5 ?_
      show OwnEnds p.tables e below _ (T5.setTop (mkF m 51 #[.val (.int p0), .val (.int p1), .val (.int lv), .val (.int r), .val (.long (own_sw lv r)), .second, .unset, .unset, .unset, .unset] [(.long (own_sw (lv - (1 : Int32)) r))]))
      refine own_via (fun t k => XS.lstore X5.here hx rfl (hb hby at_51) rfl (l' := #[.val (.int p0), .val (.int p1), .val (.int lv), .val (.int r), .val (.long (own_sw lv r)), .second, .val (.long (own_sw (lv - (1 : Int32)) r)), .second, .unset, .unset]) rfl k) ?_
      show OwnEnds p.tables e below _ (T5.setTop (mkF m 53 #[.val (.int p0), .val (.int p1), .val (.int lv), .val (.int r), .val (.long (own_sw lv r)), .second, .val (.long (own_sw (lv - (1 : Int32)) r)), .second, .unset, .unset] []))
      refine own_via (fun t k => XS.lload X5.here hx rfl (hb hby at_53) rfl k) ?_
      show OwnEnds p.tables e below _ (T5.setTop (mkF m 55 #[.val (.int p0), .val (.int p1), .val (.int lv), .val (.int r), .val (.long (own_sw lv r)), .second, .val (.long (own_sw (lv - (1 : Int32)) r)), .second, .unset, .unset] [(.long (own_sw lv r))]))
      refine own_via (fun t k => XS.lload X5.here hx rfl (hb hby at_55) rfl k) ?_
      show OwnEnds p.tables e below _ (T5.setTop (mkF m 57 #[.val (.int p0), .val (.int p1), .val (.int lv), .val (.int r), .val (.long (own_sw lv r)), .second, .val (.long (own_sw (lv - (1 : Int32)) r)), .second, .unset, .unset] [(.long (own_sw (lv - (1 : Int32)) r)), (.long (own_sw lv r))]))
      refine own_via (fun t k => XS.iloadN X5.here hx rfl (hb hby at_57) rfl k) ?_
      show OwnEnds p.tables e below _ (T5.setTop (mkF m 58 #[.val (.int p0), .val (.int p1), .val (.int lv), .val (.int r), .val (.long (own_sw lv r)), .second, .val (.long (own_sw (lv - (1 : Int32)) r)), .second, .unset, .unset] [(.int r), (.long (own_sw (lv - (1 : Int32)) r)), (.long (own_sw lv r))]))
      obtain ⟨_, _, ⟨T6, L6, k6, n6⟩, -, X6, ⟨Lc6, hQ6, l6, y6, z6⟩, st6⟩ := Jvm.LawKit.callS X5 hx (y := (⟨"com/example/rowan/rowan/Fixup", "turned", "(JZ)J"⟩ : MethodName)) hown (mvT hZ (hw _ (List.mem_of_getElem? (i := 5) rfl))) (mvT hZ (hw _ (List.mem_of_getElem? (i := 6) rfl))) (mvT hZ (hw _ (List.mem_of_getElem? (i := 3) rfl))) (mvT hZ (hw _ (List.mem_of_getElem? (i := 7) rfl))) (by decide) (backOf (W := 2) (rm2 l Z a0 hw [] (own_sw (lv - (1 : Int32)) r) r h0 n0 Z0 ) hZ (hw _ (List.mem_of_getElem? (i := 7) rfl)) (hw _ (List.mem_of_getElem? (i := 3) rfl)) (by decide) (by decide)) (g := (mkF m 58 #[.val (.int p0), .val (.int p1), .val (.int lv), .val (.int r), .val (.long (own_sw lv r)), .second, .val (.long (own_sw (lv - (1 : Int32)) r)), .second, .unset, .unset] [(.int r), (.long (own_sw (lv - (1 : Int32)) r)), (.long (own_sw lv r))])) rfl (by rw [hml]; rfl) (argsL := [(.long (own_sw (lv - (1 : Int32)) r)), (.int r)]) (rest := [(.long (own_sw lv r))]) (lenOf pd_1 rfl) rfl (by show 2 * 0 + _ ≤ _; exact Nat.le_of_eq rfl) (hb hby at_58) (fun _ _ => ⟨rfl, e5, (by decide : 0 + 0 ≤ _), (by decide : 0 + 0 ≤ _)⟩)
      dsimp only [Pt.U, Pt.locs, Pt.cells, Pt.slots] at X6 l6 y6 z6 st6 hQ6
      subst l6 y6 z6
      obtain ⟨rfl, Nq6, e6⟩ := hQ6
      have N6 := Fr.app N5 Nq6
      replace e6 : T6.heap = h0 := e6
      refine own_via st6 ?_
      show OwnEnds p.tables e below _ (T6.setTop (mkF m 61 #[.val (.int p0), .val (.int p1), .val (.int lv), .val (.int r), .val (.long (own_sw lv r)), .second, .val (.long (own_sw (lv - (1 : Int32)) r)), .second, .unset, .unset] [(.long (own_tu (own_sw (lv - (1 : Int32)) r) r)), (.long (own_sw lv r))]))
      refine own_via (fun t k => XS.lcmp X6.here hx rfl (hb hby at_61) rfl k) ?_
      show OwnEnds p.tables e below _ (T6.setTop (mkF m 62 #[.val (.int p0), .val (.int p1), .val (.int lv), .val (.int r), .val (.long (own_sw lv r)), .second, .val (.long (own_sw (lv - (1 : Int32)) r)), .second, .unset, .unset] [(.int (lcmpW (own_sw lv r) (own_tu (own_sw (lv - (1 : Int32)) r) r)))]))
      have hc62_7 : (own_sw lv r) = (own_tu (own_sw (lv - (1 : Int32)) r) r) := own_step h_lv hr hc28_3
      refine own_via (fun t k => XS.ifNo X6.here hx rfl (hb hby at_62) rfl (own_lc_eq_t hc62_7).2 k) ?_
      show OwnEnds p.tables e below _ (T6.setTop (mkF m 65 #[.val (.int p0), .val (.int p1), .val (.int lv), .val (.int r), .val (.long (own_sw lv r)), .second, .val (.long (own_sw (lv - (1 : Int32)) r)), .second, .unset, .unset] []))
      refine own_via (fun t k => XS.iconst X6.here hx rfl (hb hby at_65) k) ?_
      show OwnEnds p.tables e below _ (T6.setTop (mkF m 66 #[.val (.int p0), .val (.int p1), .val (.int lv), .val (.int r), .val (.long (own_sw lv r)), .second, .val (.long (own_sw (lv - (1 : Int32)) r)), .second, .unset, .unset] [(.int (1 : Int32))]))
      refine own_via (fun t k => XS.goto X6.here hx rfl (pc0 := 66) (pc' := 70) rfl (hb hby at_66) (by decide) (by decide) k) ?_
      show OwnEnds p.tables e below _ (T6.setTop (mkF m 70 #[.val (.int p0), .val (.int p1), .val (.int lv), .val (.int r), .val (.long (own_sw lv r)), .second, .val (.long (own_sw (lv - (1 : Int32)) r)), .second, .unset, .unset] [(.int (1 : Int32))]))
      refine own_via (fun t k => XS.istore X6.here hx rfl (hb hby at_70) rfl (l' := #[.val (.int p0), .val (.int p1), .val (.int lv), .val (.int r), .val (.long (own_sw lv r)), .second, .val (.long (own_sw (lv - (1 : Int32)) r)), .second, .val (.int (1 : Int32)), .unset]) rfl k) ?_
      show OwnEnds p.tables e below _ (T6.setTop (mkF m 72 #[.val (.int p0), .val (.int p1), .val (.int lv), .val (.int r), .val (.long (own_sw lv r)), .second, .val (.long (own_sw (lv - (1 : Int32)) r)), .second, .val (.int (1 : Int32)), .unset] []))
      refine own_via (fun t k => XS.lload X6.here hx rfl (hb hby at_72) rfl k) ?_
      show OwnEnds p.tables e below _ (T6.setTop (mkF m 74 #[.val (.int p0), .val (.int p1), .val (.int lv), .val (.int r), .val (.long (own_sw lv r)), .second, .val (.long (own_sw (lv - (1 : Int32)) r)), .second, .val (.int (1 : Int32)), .unset] [(.long (own_sw lv r))]))
      refine own_via (fun t k => XS.iloadN X6.here hx rfl (hb hby at_74) rfl k) ?_
      show OwnEnds p.tables e below _ (T6.setTop (mkF m 75 #[.val (.int p0), .val (.int p1), .val (.int lv), .val (.int r), .val (.long (own_sw lv r)), .second, .val (.long (own_sw (lv - (1 : Int32)) r)), .second, .val (.int (1 : Int32)), .unset] [(.int lv), (.long (own_sw lv r))]))
      refine own_via (fun t k => XS.lushr X6.here hx rfl (hb hby at_75) rfl k) ?_
      show OwnEnds p.tables e below _ (T6.setTop (mkF m 76 #[.val (.int p0), .val (.int p1), .val (.int lv), .val (.int r), .val (.long (own_sw lv r)), .second, .val (.long (own_sw (lv - (1 : Int32)) r)), .second, .val (.int (1 : Int32)), .unset] [(.long (((own_sw lv r).toUInt64 >>> (lv &&& 0x3f).toInt64.toUInt64).toInt64))]))
      refine own_via (fun t k => XS.lconst X6.here hx rfl (hb hby at_76) k) ?_
      show OwnEnds p.tables e below _ (T6.setTop (mkF m 77 #[.val (.int p0), .val (.int p1), .val (.int lv), .val (.int r), .val (.long (own_sw lv r)), .second, .val (.long (own_sw (lv - (1 : Int32)) r)), .second, .val (.int (1 : Int32)), .unset] [(.long (1 : Int64)), (.long (((own_sw lv r).toUInt64 >>> (lv &&& 0x3f).toInt64.toUInt64).toInt64))]))
      refine own_via (fun t k => XS.lcmp X6.here hx rfl (hb hby at_77) rfl k) ?_
      show OwnEnds p.tables e below _ (T6.setTop (mkF m 78 #[.val (.int p0), .val (.int p1), .val (.int lv), .val (.int r), .val (.long (own_sw lv r)), .second, .val (.long (own_sw (lv - (1 : Int32)) r)), .second, .val (.int (1 : Int32)), .unset] [(.int (lcmpW (((own_sw lv r).toUInt64 >>> (lv &&& 0x3f).toInt64.toUInt64).toInt64) (1 : Int64)))]))
      have hc78_8 : (((own_sw lv r).toUInt64 >>> (lv &&& 0x3f).toInt64.toUInt64).toInt64) = (1 : Int64) := own_mark h_lv hr
      refine own_via (fun t k => XS.ifNo X6.here hx rfl (hb hby at_78) rfl (own_lc_eq_t hc78_8).2 k) ?_
      show OwnEnds p.tables e below _ (T6.setTop (mkF m 81 #[.val (.int p0), .val (.int p1), .val (.int lv), .val (.int r), .val (.long (own_sw lv r)), .second, .val (.long (own_sw (lv - (1 : Int32)) r)), .second, .val (.int (1 : Int32)), .unset] []))
      refine own_via (fun t k => XS.iconst X6.here hx rfl (hb hby at_81) k) ?_
      show OwnEnds p.tables e below _ (T6.setTop (mkF m 82 #[.val (.int p0), .val (.int p1), .val (.int lv), .val (.int r), .val (.long (own_sw lv r)), .second, .val (.long (own_sw (lv - (1 : Int32)) r)), .second, .val (.int (1 : Int32)), .unset] [(.int (1 : Int32))]))
      refine own_via (fun t k => XS.goto X6.here hx rfl (pc0 := 82) (pc' := 86) rfl (hb hby at_82) (by decide) (by decide) k) ?_
      show OwnEnds p.tables e below _ (T6.setTop (mkF m 86 #[.val (.int p0), .val (.int p1), .val (.int lv), .val (.int r), .val (.long (own_sw lv r)), .second, .val (.long (own_sw (lv - (1 : Int32)) r)), .second, .val (.int (1 : Int32)), .unset] [(.int (1 : Int32))]))
      refine own_via (fun t k => XS.istore X6.here hx rfl (hb hby at_86) rfl (l' := #[.val (.int p0), .val (.int p1), .val (.int lv), .val (.int r), .val (.long (own_sw lv r)), .second, .val (.long (own_sw (lv - (1 : Int32)) r)), .second, .val (.int (1 : Int32)), .val (.int (1 : Int32))]) rfl k) ?_
      show OwnEnds p.tables e below _ (T6.setTop (mkF m 88 #[.val (.int p0), .val (.int p1), .val (.int lv), .val (.int r), .val (.long (own_sw lv r)), .second, .val (.long (own_sw (lv - (1 : Int32)) r)), .second, .val (.int (1 : Int32)), .val (.int (1 : Int32))] []))
      refine own_via (fun t k => XS.iload X6.here hx rfl (hb hby at_88) rfl k) ?_
      show OwnEnds p.tables e below _ (T6.setTop (mkF m 90 #[.val (.int p0), .val (.int p1), .val (.int lv), .val (.int r), .val (.long (own_sw lv r)), .second, .val (.long (own_sw (lv - (1 : Int32)) r)), .second, .val (.int (1 : Int32)), .val (.int (1 : Int32))] [(.int (1 : Int32))]))
      have hc90_9 : ¬ ((1 : Int32) = (0 : Int32)) := by decide
      refine own_via (fun t k => XS.ifNo X6.here hx rfl (hb hby at_90) rfl ((if0 _ _).trans (feq hc90_9).1) k) ?_
      show OwnEnds p.tables e below _ (T6.setTop (mkF m 93 #[.val (.int p0), .val (.int p1), .val (.int lv), .val (.int r), .val (.long (own_sw lv r)), .second, .val (.long (own_sw (lv - (1 : Int32)) r)), .second, .val (.int (1 : Int32)), .val (.int (1 : Int32))] []))
      refine own_via (fun t k => XS.iload X6.here hx rfl (hb hby at_93) rfl k) ?_
      show OwnEnds p.tables e below _ (T6.setTop (mkF m 95 #[.val (.int p0), .val (.int p1), .val (.int lv), .val (.int r), .val (.long (own_sw lv r)), .second, .val (.long (own_sw (lv - (1 : Int32)) r)), .second, .val (.int (1 : Int32)), .val (.int (1 : Int32))] [(.int (1 : Int32))]))
      have hc95_10 : ¬ ((1 : Int32) = (0 : Int32)) := by decide
      refine own_via (fun t k => XS.ifNo X6.here hx rfl (hb hby at_95) rfl ((if0 _ _).trans (feq hc95_10).1) k) ?_
      show OwnEnds p.tables e below _ (T6.setTop (mkF m 98 #[.val (.int p0), .val (.int p1), .val (.int lv), .val (.int r), .val (.long (own_sw lv r)), .second, .val (.long (own_sw (lv - (1 : Int32)) r)), .second, .val (.int (1 : Int32)), .val (.int (1 : Int32))] []))
      refine own_via (fun t k => XS.iconst X6.here hx rfl (hb hby at_98) k) ?_
      show OwnEnds p.tables e below _ (T6.setTop (mkF m 99 #[.val (.int p0), .val (.int p1), .val (.int lv), .val (.int r), .val (.long (own_sw lv r)), .second, .val (.long (own_sw (lv - (1 : Int32)) r)), .second, .val (.int (1 : Int32)), .val (.int (1 : Int32))] [(.int (1 : Int32))]))
      refine own_via (fun t k => XS.goto X6.here hx rfl (pc0 := 99) (pc' := 103) rfl (hb hby at_99) (by decide) (by decide) k) ?_
      show OwnEnds p.tables e below _ (T6.setTop (mkF m 103 #[.val (.int p0), .val (.int p1), .val (.int lv), .val (.int r), .val (.long (own_sw lv r)), .second, .val (.long (own_sw (lv - (1 : Int32)) r)), .second, .val (.int (1 : Int32)), .val (.int (1 : Int32))] [(.int (1 : Int32))]))
      refine own_retN (t := .boolean) X6 hx Bd.returns (by simp) hlk (hb hby at_103) ?_ (by decide) (by decide)
      rw [e6]
      exact ⟨rfl, N6⟩
  by_cases hc11_11 : (p1 &&& (1 : Int32)) = (0 : Int32)
  · skip
    refine own_via (fun t k => XS.ifYes X0.here hx rfl (pc0 := 11) (pc' := 18) rfl (hb hby at_11) rfl ((if0 _ _).trans (teq hc11_11).1) (by decide) (by decide) k) ?_
    show OwnEnds p.tables e below _ (s₁.setTop (mkF m 18 #[.val (.int p0), .val (.int p1), .val (.int lv), .unset, .unset, .unset, .unset, .unset, .unset, .unset] []))
    refine own_via (fun t k => XS.iconst X0.here hx rfl (hb hby at_18) k) ?_
    show OwnEnds p.tables e below _ (s₁.setTop (mkF m 19 #[.val (.int p0), .val (.int p1), .val (.int lv), .unset, .unset, .unset, .unset, .unset, .unset, .unset] [(.int (0 : Int32))]))
    exact J19_1 _ (by simp only [if_pos hc11_11])
  · skip
    refine own_via (fun t k => XS.ifNo X0.here hx rfl (hb hby at_11) rfl ((if0 _ _).trans (feq hc11_11).1) k) ?_
    show OwnEnds p.tables e below _ (s₁.setTop (mkF m 14 #[.val (.int p0), .val (.int p1), .val (.int lv), .unset, .unset, .unset, .unset, .unset, .unset, .unset] []))
    refine own_via (fun t k => XS.iconst X0.here hx rfl (hb hby at_14) k) ?_
    show OwnEnds p.tables e below _ (s₁.setTop (mkF m 15 #[.val (.int p0), .val (.int p1), .val (.int lv), .unset, .unset, .unset, .unset, .unset, .unset, .unset] [(.int (1 : Int32))]))
    refine own_via (fun t k => XS.goto X0.here hx rfl (pc0 := 15) (pc' := 19) rfl (hb hby at_15) (by decide) (by decide) k) ?_
    show OwnEnds p.tables e below _ (s₁.setTop (mkF m 19 #[.val (.int p0), .val (.int p1), .val (.int lv), .unset, .unset, .unset, .unset, .unset, .unset, .unset] [(.int (1 : Int32))]))
    exact J19_1 _ (by simp only [if_neg hc11_11])
set_option maxRecDepth 65536 in
set_option maxHeartbeats 40000000 in
theorem comes_1 {Post : Tables → Env → Array Value → State → Outcome → State → Prop} (hpost : ∀ tb e args s v u, (limb_1_1.after args s (.returned v) u = true ∧ limb_1_2.after args s (.returned v) u = true ∧ True) → FrameEnd s (.returned v) u (Jvm.fieldLocs frame_1_writes args s ++ Jvm.arrayLocs frame_1_arrays args s ++ Jvm.staticLocs frame_1_statics s) 0 0 → Post tb e args s (.returned v) u) :
    ArmFor flags0 classFile x code maxLocals ret World_1 tables_1 room_1 Calls_1 rest_1 Pre_1 Post := by
  intro l hfl _ _ p e ha hc hk s m args below hf hA hF happ hP
  obtain ⟨hcalls, hrest, hpre⟩ := hP
  obtain ⟨-, -, -, hnamed, -, -, -, hat⟩ := (Spec.applies_iff hf).mp happ
  obtain ⟨hg, hn⟩ := and_e (Cond.before_iff.mp (show (Jvm.Cond.and given_1 narrow_1).before args s = true from hpre))
  obtain ⟨hq0, hg0⟩ := and_e hg
  obtain ⟨hq1, hg1⟩ := and_e hg0
  obtain ⟨w0, w1, rfl⟩ : ∃ w0 w1 : Value, args = #[w0, w1] := by
    have hs : args.size = 2 := by simpa [Cond.value, given_1] using hq0
    obtain ⟨L⟩ := args
    match L, hs with
    | [w0, w1], _ => exact ⟨w0, w1, rfl⟩
  have hw := fun d (hd : d ∈ tables_1) => atoms_spec (ws := Jvm.Cond.code x code maxLocals ret :: tables_1) hat d (List.mem_cons_of_mem _ hd)
  have hfit : Fit s := fun {y c} hc i hi => by
    obtain ⟨ha, rfl⟩ := Array.getElem?_eq_some_iff.mp hc
    have q := List.all_eq_true.mp ((Array.all_eq_true_iff_forall_mem.mp hF) _ (Array.getElem_mem ha)) i (List.mem_range.mpr hi)
    simpa [Array.getElem?_eq_getElem hi] using q
  obtain ⟨i0, ei0⟩ := is_v hq1
  obtain rfl : w0 = (.int i0) := Option.some.inj ei0
  obtain ⟨i1, ei1⟩ := is_v hg1
  obtain rfl : w1 = (.int i1) := Option.some.inj ei1
  obtain ⟨n, o, h1, h2, h3, _, L, rfl, ⟨rfl, N⟩, hq⟩ := rm0 l s _ hw tables_1 i0 i1 s.heap s.heap.size (Nat.le_refl _)  p e ha hc hk s m _ below hf ((Spec.applies_iff_loose hf).mp happ).1 ⟨rfl, State.Warmed39.refl s, rfl⟩ trivial
  refine ⟨n, _, h1, h2, h3, hpost _ _ _ _ _ _ ⟨Cond.after_iff.mpr rfl, Cond.after_iff.mpr (eq_i res_at (Term.int_eval (1)) rfl), trivial⟩ ⟨hq.1, hq.2.1, (hq.2.2.sift fun y hy => Or.inr (N y hy)).mono (by decide) (by decide)⟩⟩
theorem main_1_1 : Claimed_1_1 := comes_1 fun _ _ _ _ _ _ h hF => ⟨h.1, hF⟩
theorem main_1_2 : Claimed_1_2 := comes_1 fun _ _ _ _ _ _ h hF => ⟨h.2.1, hF⟩
end Jvm.Pilot.@@N@@
namespace Jvm.Pilot.@@N@@
open Jvm Jvm.ClassFile Sem Op Lib Jvm.Free Jvm.Stand Jvm.Pilot.@@N@@.Jvm.D
/-! MADE BY PROGRAM (witnessworld.py) out of the Statement's table words and the real class files: 9 classes; the members and pool entries that the words name. The judged class is class 1, her method 1. -/
namespace start1
open Jvm.ClassFile
def u (s : String) : CpInfo := .utf8 (stringToUtf16 s)
/-- a pool by its gaps: so many unusable entries, then the entry; so many at the end -/
def gap : Nat → List CpInfo → List CpInfo
  | 0, r => r
  | n + 1, r => .unusable :: gap n r
def poolList (es : List (Nat × CpInfo)) (last : Nat) : List CpInfo := es.foldr (fun e r => gap e.1 (e.2 :: r)) (gap last [])
def pool (es : List (Nat × CpInfo)) (last : Nat) : Array CpInfo := ⟨poolList es last⟩
def fileOf (pool : Array CpInfo) (this : Nat) (attrs : Array Attribute := #[]) (ms : Array MethodInfo := #[]) (fl : Nat := 33) (sup : Nat := 0) (ifs : Array Nat := #[]) (fds : Array FieldInfo := #[]) : ClassFile where
  minorVersion := 0
  majorVersion := 65
  constantPool := pool
  accessFlags := fl
  thisClass := this
  superClass := sup
  interfaces := ifs
  fields := fds
  methods := ms
  attributes := attrs
def plain (name : String) (sup : Option ClassId) : Class where
  name := name
  kind := .ordinary
  loader := none
  accessFlags := 33
  super := sup
  interfaces := #[]
  cf := none
  fields := #[]
  methods := #[]
  instanceTypes := #[]
  staticTypes := #[]
  resolved := #[]
  callSites := []
  init := .initialized
  statics := none
  mirror := none

def pool0 : Array CpInfo := pool [(5, u "<init>"), (0, u "()V"), (1, .class_ 10), (1, u "java/lang/Object")] 113

def k0m0 : Method := { name := "<init>", desc := "()V", sig := { parameters := [], returnType := none }, accessFlags := 1, code := none }
/-- java/lang/Object -/
def k0 : Class := { plain "java/lang/Object" none with
  accessFlags := 33
  interfaces := #[]
  cf := some (fileOf pool0 8 #[] #[{ accessFlags := 1, nameIndex := 5, descriptorIndex := 6, attributes := #[] }] 33 0 #[] #[])
  fields := #[]
  methods := #[k0m0]
  instanceTypes := #[]
  staticTypes := #[]
  resolved := Array.replicate 124 none
  statics := none }

def pool1 : Array CpInfo := pool [(2, .class_ 4), (1, u "java/lang/Object"), (0, u "<init>"), (0, u "()V"), (0, .integer 2147483647), (0, .methodref 9 10), (0, .class_ 11), (0, .nameAndType 12 13), (0, u "com/example/rowan/rowan/Fixup"), (0, u "straightWay"), (0, u "(IZ)J"), (0, .methodref 9 15), (0, .nameAndType 16 17), (0, u "turned"), (0, u "(JZ)J"), (0, .class_ 19), (0, u "com/example/rowan/rowan/FixupStraightWayPinLaw"), (2, u "law"), (0, u "(II)Z")] 3

def k1m0 : Method := { name := "<init>", desc := "()V", sig := { parameters := [], returnType := none }, accessFlags := 2, code := none }
def k1c1 : Code := { maxStack := 5, maxLocals := 10, code := code, exceptionTable := #[], attributes := #[] }
def k1m1 : Method := { name := "law", desc := "(II)Z", sig := { parameters := [.int, .int], returnType := some .boolean }, accessFlags := 9, code := some k1c1 }
/-- com/example/rowan/rowan/FixupStraightWayPinLaw -/
def k1 : Class := { plain "com/example/rowan/rowan/FixupStraightWayPinLaw" (some 0) with
  accessFlags := 49
  interfaces := #[]
  cf := some (fileOf pool1 18 #[] #[{ accessFlags := 2, nameIndex := 5, descriptorIndex := 6, attributes := #[] }, { accessFlags := 9, nameIndex := 22, descriptorIndex := 23, attributes := #[] }] 49 2 #[] #[])
  fields := #[]
  methods := #[k1m0, k1m1]
  instanceTypes := #[]
  staticTypes := #[]
  resolved := Array.replicate 27 none
  statics := none }

def pool2 : Array CpInfo := pool [(2, .class_ 4), (1, u "java/lang/Object"), (0, u "<init>"), (0, u "()V"), (1, .class_ 10), (1, u "com/example/rowan/rowan/Fixup"), (17, .class_ 30), (1, u "com/example/rowan/rowan/Fixup$Pending"), (66, u "turned"), (0, u "(JZ)J"), (39, u "NO_TURNS"), (0, u "J"), (3, u "UNOWNED_SIBLING"), (0, u "Ljava/lang/String;"), (2, u "UNOWNED_NEPHEW"), (26, u "straightWay"), (0, u "(IZ)J"), (11, .class_ 188), (0, u "com/example/rowan/rowan/Fixup$Pending$5"), (0, .class_ 190), (0, u "com/example/rowan/rowan/Fixup$Pending$4"), (0, .class_ 192), (0, u "com/example/rowan/rowan/Fixup$Pending$3"), (0, .class_ 194), (0, u "com/example/rowan/rowan/Fixup$Pending$2"), (0, .class_ 196), (0, u "com/example/rowan/rowan/Fixup$Pending$1")] 5

def k2m0 : Method := { name := "<init>", desc := "()V", sig := { parameters := [], returnType := none }, accessFlags := 2, code := none }
def k2c1 : Code := { maxStack := 4, maxLocals := 3, code := prog_3_method_11_code, exceptionTable := #[], attributes := #[] }
def k2m1 : Method := { name := "turned", desc := "(JZ)J", sig := { parameters := [.long, .boolean], returnType := some .long }, accessFlags := 8, code := some k2c1 }
def k2c2 : Code := { maxStack := 4, maxLocals := 2, code := prog_3_method_12_code, exceptionTable := #[], attributes := #[] }
def k2m2 : Method := { name := "straightWay", desc := "(IZ)J", sig := { parameters := [.int, .boolean], returnType := some .long }, accessFlags := 8, code := some k2c2 }
/-- com/example/rowan/rowan/Fixup -/
def k2 : Class := { plain "com/example/rowan/rowan/Fixup" (some 0) with
  accessFlags := 32
  interfaces := #[]
  cf := some (fileOf pool2 8 #[.nestMembers #[28, 187, 189, 191, 193, 195]] #[{ accessFlags := 2, nameIndex := 5, descriptorIndex := 6, attributes := #[] }, { accessFlags := 8, nameIndex := 97, descriptorIndex := 98, attributes := #[] }, { accessFlags := 8, nameIndex := 174, descriptorIndex := 175, attributes := #[] }] 32 2 #[] #[{ accessFlags := 24, nameIndex := 138, descriptorIndex := 139, attributes := #[] }, { accessFlags := 26, nameIndex := 143, descriptorIndex := 144, attributes := #[] }, { accessFlags := 26, nameIndex := 147, descriptorIndex := 144, attributes := #[] }])
  fields := #[{ name := "NO_TURNS", type := .long, accessFlags := 24, slot := 0, constantValue := 0 }, { name := "UNOWNED_SIBLING", type := (.object "java/lang/String"), accessFlags := 26, slot := 1, constantValue := 0 }, { name := "UNOWNED_NEPHEW", type := (.object "java/lang/String"), accessFlags := 26, slot := 2, constantValue := 0 }]
  methods := #[k2m0, k2m1, k2m2]
  instanceTypes := #[]
  staticTypes := #[.long, (.object "java/lang/String"), (.object "java/lang/String")]
  resolved := Array.replicate 202 none
  statics := none }

def pool3 : Array CpInfo := pool [(1, u "java/lang/Cloneable"), (0, .class_ 1), (0, u "java/lang/Object"), (0, .class_ 3)] 3

/-- java/lang/Cloneable -/
def k3 : Class := { plain "java/lang/Cloneable" (some 0) with
  accessFlags := 1537
  interfaces := #[]
  cf := some (fileOf pool3 2 #[] #[] 1537 4 #[] #[])
  fields := #[]
  methods := #[]
  instanceTypes := #[]
  staticTypes := #[]
  resolved := Array.replicate 8 none
  statics := none }

def pool4 : Array CpInfo := pool [(1, u "java/io/Serializable"), (0, .class_ 1), (0, u "java/lang/Object"), (0, .class_ 3)] 3

/-- java/io/Serializable -/
def k4 : Class := { plain "java/io/Serializable" (some 0) with
  accessFlags := 1537
  interfaces := #[]
  cf := some (fileOf pool4 2 #[] #[] 1537 4 #[] #[])
  fields := #[]
  methods := #[]
  instanceTypes := #[]
  staticTypes := #[]
  resolved := Array.replicate 8 none
  statics := none }

/-- the primitive byte -/
def k5 : Class := { plain "byte" none with kind := .primitive 'B', accessFlags := 0x411 }
/-- [B -/
def k6 : Class := { plain "[B" (some 0) with kind := .array 5 .byte, interfaces := #[3, 4], accessFlags := 1041 }

/-- the primitive int -/
def k7 : Class := { plain "int" none with kind := .primitive 'I', accessFlags := 0x411 }
/-- [I -/
def k8 : Class := { plain "[I" (some 0) with kind := .array 7 .int, interfaces := #[3, 4], accessFlags := 1041 }

def heap : Heap := #[]
def classes : Array Class := #[k0, k1, k2, k3, k4, k5, k6, k7, k8]
def interned : List (Array UInt16 × Addr) := []
def slotsUsed : Nat := 0
def theMethod : MethodId := ⟨1, 1⟩
def args0 : Array Value := #[.int 5, .int 300]
def aboutOver (below : List Frame) : State where
  vm := { classes := classes, interned := interned.toArray }
  heap := heap
  slotsUsed := slotsUsed
  threads := #[{ frames := .invoking theMethod args0 :: below }]
def below0 : List Frame := [.native { method := ⟨0, 0⟩, args := #[] }]
def about1 : State := aboutOver below0
def p0 : Program := .bare "" "" ""
def e0 : Env := launch0.env 0 0 0
theorem w_frames : about1.frames = Frame.invoking theMethod args0 :: below0 := rfl
set_option maxRecDepth 65536 in
theorem w_args : argsFit about1.vm theMethod args0 = true := by decide +kernel
set_option maxRecDepth 65536 in
theorem w_heap : heapFits about1 = true := by decide +kernel
set_option maxRecDepth 65536 in
theorem w_runnable : about1.curStatus? = some .runnable := by decide +kernel
set_option maxRecDepth 65536 in
theorem w_alone : about1.alone = true := by decide +kernel
set_option maxRecDepth 65536 in
theorem w_named : about1.methodNamed? x = some theMethod := by decide +kernel
set_option maxRecDepth 65536 in
theorem w_hears : about1.hears theMethod below0 = true := by decide +kernel
set_option maxRecDepth 65536 in
theorem w_ripe : about1.ripe theMethod args0 below0 = true := by decide +kernel
theorem w_running : about1.status = .running := rfl
set_option maxRecDepth 65536 in
theorem w_room : about1.hasRoom e0.platform room_1 = true :=
  launch0.hasRoom_least _ room_1 (by decide +kernel) (by decide +kernel) (by decide +kernel) (by decide +kernel) (by decide +kernel) (by decide +kernel)
theorem allAtoms_all (ts : List Jvm.Cond) (a : Array Jvm.Value) (st : Jvm.State) : (allAtoms ts).before a st = ts.all (fun c => c.before a st) := by
  induction ts with
  | nil => rfl
  | cons c t ih =>
    show (Jvm.Cond.and c (allAtoms t)).before a st = _
    rw [Jvm.Cond.before_and, ih, List.all_cons]
def words1 : List Jvm.Cond := Jvm.Cond.code x code maxLocals ret :: tables_1
/-- a 'code' word, met by the world's own term for the bytes: nothing is compared byte by byte -/
theorem code_word {y : MethodName} {bytes : ByteArray} {mx : Nat} {rt : Option FieldType} {a : Array Value} {s : State} {m : MethodId} {meth : Method} {c : Code} (h1 : s.methodNamed? y = some m) (h2 : s.vm.method? m = some meth) (h3 : meth.code = some c) (h4 : c.code = bytes)
    (h5 : (c.maxLocals == mx && c.exceptionTable.isEmpty && decide (c.maxStack ≤ mostOperands) && decide (meth.sig.returnType = rt) && !meth.locks && decide (parseMethodDescriptor y.desc = some meth.sig)) = true) : (Jvm.Cond.code y bytes mx rt).before a s = true := by
  simp only [Bool.and_eq_true, beq_iff_eq, Bool.not_eq_true', decide_eq_true_eq] at h5
  obtain ⟨⟨⟨⟨⟨g1, g2⟩, g3⟩, g4⟩, g5⟩, g6⟩ := h5
  simp [Cond.before, Cond.holds, Cond.value, h1, h2, h3, h4, g1, g2, g3, g4, g5, g6]
def isCode : Jvm.Cond → Bool
  | .code _ _ _ _ => true
  | _ => false
theorem all_split {L : List Jvm.Cond} {P : Jvm.Cond → Bool} (h1 : L.all (fun c => isCode c || P c) = true) (h2 : ∀ c ∈ L.filter isCode, P c = true) : L.all P = true := by
  refine List.all_eq_true.mpr fun c hc => ?_
  have h := List.all_eq_true.mp h1 c hc
  rcases Bool.eq_false_or_eq_true (isCode c) with hi | hi
  · exact h2 c (List.mem_filter.mpr ⟨hc, hi⟩)
  · simpa [hi] using h
set_option maxRecDepth 65536 in
theorem w_c0 : (Jvm.Cond.code x code maxLocals ret).before args0 about1 = true := code_word (m := ⟨1, 1⟩) (meth := k1m1) (c := k1c1) (by decide +kernel) rfl rfl rfl (by decide +kernel)
set_option maxRecDepth 65536 in
theorem w_c1 : (Jvm.Cond.code ({ cls := "com/example/rowan/rowan/Fixup", name := "straightWay", desc := "(IZ)J" } : Jvm.MethodName) prog_3_method_12_code (2 : Nat) (Option.some Jvm.ClassFile.FieldType.long)).before args0 about1 = true := code_word (m := ⟨2, 2⟩) (meth := k2m2) (c := k2c2) (by decide +kernel) rfl rfl rfl (by decide +kernel)
set_option maxRecDepth 65536 in
theorem w_c2 : (Jvm.Cond.code ({ cls := "com/example/rowan/rowan/Fixup", name := "turned", desc := "(JZ)J" } : Jvm.MethodName) prog_3_method_11_code (3 : Nat) (Option.some Jvm.ClassFile.FieldType.long)).before args0 about1 = true := code_word (m := ⟨2, 1⟩) (meth := k2m1) (c := k2c1) (by decide +kernel) rfl rfl rfl (by decide +kernel)
def codes1 : List Jvm.Cond := [Jvm.Cond.code x code maxLocals ret, Jvm.Cond.code ({ cls := "com/example/rowan/rowan/Fixup", name := "straightWay", desc := "(IZ)J" } : Jvm.MethodName) prog_3_method_12_code (2 : Nat) (Option.some Jvm.ClassFile.FieldType.long), Jvm.Cond.code ({ cls := "com/example/rowan/rowan/Fixup", name := "turned", desc := "(JZ)J" } : Jvm.MethodName) prog_3_method_11_code (3 : Nat) (Option.some Jvm.ClassFile.FieldType.long)]
set_option maxRecDepth 65536 in
theorem codes_eq : words1.filter isCode = codes1 := rfl
theorem w_codes : ∀ c ∈ words1.filter isCode, c.before args0 about1 = true := by
  rw [codes_eq]
  intro c hc
  simp only [codes1, List.mem_cons, List.not_mem_nil, or_false] at hc
  rcases hc with rfl | rfl | rfl
  · exact w_c0
  · exact w_c1
  · exact w_c2
set_option maxRecDepth 65536 in
theorem w_t1 : words1.all (fun c => isCode c || c.before args0 about1) = true := by decide +kernel
theorem w_tables : (allAtoms (Jvm.Cond.code x code maxLocals ret :: tables_1)).before args0 about1 = true := by
  rw [allAtoms_all]
  show words1.all (fun c => c.before args0 about1) = true
  refine all_split ?_ w_codes
  rw [w_t1]
set_option maxRecDepth 65536 in
theorem w_case : (Jvm.Cond.and given_1 narrow_1).before args0 about1 = true := by decide +kernel
theorem w_applies : (headSpec (Jvm.Cond.code x code maxLocals ret :: tables_1) room_1).applies x e0.platform about1 = true :=
  (Spec.applies_iff w_frames).mpr ⟨w_running, w_runnable, w_alone, w_named, w_hears, w_ripe, w_room, w_tables⟩
theorem atStart : AtStart classFile x code maxLocals ret World_1 tables_1 room_1 Calls_1 rest_1 Pre_1 launch0 p0 e0 about1 theMethod args0 below0 :=
  ⟨lists_1, trivial, launch0.admits_env _ _ _, launch0.least_env, fairChoices_fair.cas, fairChoices_fair.clock, w_frames, w_args, w_heap, w_applies, trivial, trivial, w_case⟩
end start1
theorem witness_1 : WitnessClaimed_1 := ⟨start1.p0, start1.e0, start1.about1, start1.theMethod, start1.args0, start1.below0, start1.atStart⟩
end Jvm.Pilot.@@N@@
