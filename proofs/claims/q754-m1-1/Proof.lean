import JvmDerived
import JvmDerived.Pilot.@@N@@Statement
import JvmDerived.Pilot.@@N@@Code
set_option linter.unusedVariables false
set_option linter.unusedSimpArgs false
namespace Jvm.Pilot.@@N@@
open Jvm Jvm.ClassFile Sem Op Lib Jvm.Free Jvm.Stand Jvm.LawKit Jvm.RoadKit Bundle Jvm.Pilot.@@N@@.Jvm.D
section Own
variable {p : Program} {l : Launch} {e : Env} {R : Room} {s : State} {m : MethodId} {args : Array Value} {below : List Frame} {meth : Method} {c : Code} {T : State} {locs : List Loc} {cells slots : Nat}
/-- from U the run comes to an end of which Q holds -/
def OwnEnds (tb : Tables) (e : Env) (below : List Frame) (Q : Outcome → State → Prop) (U : State) : Prop :=
  ∃ s₂ o, Steps tb e below U s₂ ∧ s₂.status = .running ∧ Ended s₂ below o ∧ Q o s₂
abbrev OwnQ (s : State) (K N : Nat) (Q : Option Value → Heap → List Loc → Prop) : Outcome → State → Prop :=
  fun o U => ∃ v L, o = .returned v ∧ Q v U.heap L ∧ FrameEnd s o U L K N
theorem own_via {tb : Tables} {Q : Outcome → State → Prop} {U U' : State} (h : ∀ t, Steps tb e below U' t → Steps tb e below U t) (k : OwnEnds tb e below Q U') : OwnEnds tb e below Q U := by
  obtain ⟨s₂, o, h1, h2⟩ := k
  exact ⟨s₂, o, h _ h1, h2⟩
theorem own_of {tb : Tables} {Q : Outcome → State → Prop} {U U' : State} (h : Steps tb e below U U') (k : OwnEnds tb e below Q U') : OwnEnds tb e below Q U :=
  own_via (fun _ q => h.trans q) k
theorem own_wide {K N : Nat} (X : Stand p l e R s m args below meth c T locs cells slots) (h1 : cells ≤ K) (h2 : slots ≤ N) : Stand p l e R s m args below meth c T locs K N :=
  { X with same := X.same.mono h1 h2 }
theorem own_ret (X : Stand p l e R s m args below meth c T locs cells slots) {Q : Option Value → Heap → List Loc → Prop} {K N : Nat} {v : Option Value} (hv : meth.sig.returnType = none → v = none) (hlk : meth.locks = false) {f : JFrame}
    (st : ∀ fs, (∀ (f : JFrame) (acts : List Action), f.method = m → f.locked = none → f.entered = [] → (doReturn e (T.setTop f) acts v).1 = T.setFrames fs) → Steps p.tables e below (T.setTop f) (T.setFrames fs))
    (hQ : Q v T.heap locs) (hK : cells ≤ K) (hN : slots ≤ N) : OwnEnds p.tables e below (OwnQ s K N Q) (T.setTop f) := by
  obtain ⟨fs, hr, hrun, hended, hW, hsame⟩ := X.leave (v := v) hv hlk
  exact ⟨_, _, st fs hr, hrun, hended, _, _, rfl, hQ, ⟨_, rfl⟩, hW, hsame.mono hK hN⟩
theorem own_retI (X : Stand p l e R s m args below meth c T locs cells slots) (hx : p.tables.exec = Jvm.exec) {Q : Option Value → Heap → List Loc → Prop} {K N pc : Nat} {Ls : Array Slot} {z : Int32} {rest : List Value} (hret : meth.sig.returnType = some .int) (hlk : meth.locks = false) (hd : decode c.code pc = .ok (.ireturn, 1))
    (hQ : Q (some (.int z)) T.heap locs) (hK : cells ≤ K) (hN : slots ≤ N) : OwnEnds p.tables e below (OwnQ s K N Q) (T.setTop (mkF m pc Ls (.int z :: rest))) :=
  own_ret X (fun h => by rw [hret] at h; cases h) hlk (fun fs hl => retOut X hx hret rfl (Or.inl ⟨rfl, Or.inl rfl, z, rfl⟩) hd hl) hQ hK hN
theorem own_retN (X : Stand p l e R s m args below meth c T locs cells slots) (hx : p.tables.exec = Jvm.exec) {Q : Option Value → Heap → List Loc → Prop} {K N pc : Nat} {Ls : Array Slot} {z : Int32} {t : FieldType} {rest : List Value} (hret : meth.sig.returnType = some t) (ht : t = .boolean ∨ t = .byte ∨ t = .char ∨ t = .short) (hlk : meth.locks = false) (hd : decode c.code pc = .ok (.ireturn, 1))
    (hQ : Q (some (.int (nar t z))) T.heap locs) (hK : cells ≤ K) (hN : slots ≤ N) : OwnEnds p.tables e below (OwnQ s K N Q) (T.setTop (mkF m pc Ls (.int z :: rest))) :=
  own_ret X (fun h => by rw [hret] at h; cases h) hlk (fun fs hl => retN X hx hret ht hd hl) hQ hK hN
theorem own_retJ (X : Stand p l e R s m args below meth c T locs cells slots) (hx : p.tables.exec = Jvm.exec) {Q : Option Value → Heap → List Loc → Prop} {K N pc : Nat} {Ls : Array Slot} {z : Int64} {rest : List Value} (hret : meth.sig.returnType = some .long) (hlk : meth.locks = false) (hd : decode c.code pc = .ok (.lreturn, 1))
    (hQ : Q (some (.long z)) T.heap locs) (hK : cells ≤ K) (hN : slots ≤ N) : OwnEnds p.tables e below (OwnQ s K N Q) (T.setTop (mkF m pc Ls (.long z :: rest))) :=
  own_ret X (fun h => by rw [hret] at h; cases h) hlk (fun fs hl => retOut X hx hret rfl (Or.inr (Or.inl ⟨rfl, rfl, z, rfl⟩)) hd hl) hQ hK hN
theorem own_retA (X : Stand p l e R s m args below meth c T locs cells slots) (hx : p.tables.exec = Jvm.exec) {Q : Option Value → Heap → List Loc → Prop} {K N pc : Nat} {Ls : Array Slot} {w : Value} {t : FieldType} {rest : List Value} (hret : meth.sig.returnType = some t) (ht : t.isReference = true) (hw : w.isRef = true) (hlk : meth.locks = false) (hd : decode c.code pc = .ok (.areturn, 1))
    (hQ : Q (some w) T.heap locs) (hK : cells ≤ K) (hN : slots ≤ N) : OwnEnds p.tables e below (OwnQ s K N Q) (T.setTop (mkF m pc Ls (w :: rest))) :=
  own_ret X (fun h => by rw [hret] at h; cases h) hlk (fun fs hl => retOut X hx hret (by cases t <;> first | (cases ht; done) | (cases w <;> first | rfl | (cases hw; done))) (Or.inr (Or.inr (Or.inr (Or.inr ⟨rfl, ht, hw⟩)))) hd hl) hQ hK hN
theorem own_retV (X : Stand p l e R s m args below meth c T locs cells slots) (hx : p.tables.exec = Jvm.exec) {Q : Option Value → Heap → List Loc → Prop} {K N pc : Nat} {Ls : Array Slot} (hret : meth.sig.returnType = none) (hlk : meth.locks = false) (hd : decode c.code pc = .ok (.return_, 1))
    (hQ : Q none T.heap locs) (hK : cells ≤ K) (hN : slots ≤ N) : OwnEnds p.tables e below (OwnQ s K N Q) (T.setTop (mkF m pc Ls [])) :=
  own_ret X (fun _ => rfl) hlk (fun fs hl => X.returnOut hx hret hd hl) hQ hK hN
theorem own_lc_lt_t {x y : Int64} (h : x < y) : ifCond.holds .lt (lcmpW x y) = true ∧ ifCond.holds .ge (lcmpW x y) = false := by
  have q : lcmpW x y < 0 := by rw [lcW, lc_lt]; exact h
  exact ⟨(if0 _ _).trans (tlt q).1, (if0 _ _).trans (tlt q).2.1⟩
theorem own_lc_lt_f {x y : Int64} (h : ¬ (x < y)) : ifCond.holds .lt (lcmpW x y) = false ∧ ifCond.holds .ge (lcmpW x y) = true := by
  have q : ¬ lcmpW x y < 0 := by rw [lcW, lc_lt]; exact h
  exact ⟨(if0 _ _).trans (flt q).1, (if0 _ _).trans (flt q).2.1⟩
theorem own_lc_gt_t {x y : Int64} (h : y < x) : ifCond.holds .gt (lcmpW x y) = true ∧ ifCond.holds .le (lcmpW x y) = false := by
  have q : 0 < lcmpW x y := by rw [lcW, lc_gt]; exact h
  exact ⟨(if0 _ _).trans (tlt q).2.2.1, (if0 _ _).trans (tlt q).2.2.2⟩
theorem own_lc_gt_f {x y : Int64} (h : ¬ (y < x)) : ifCond.holds .gt (lcmpW x y) = false ∧ ifCond.holds .le (lcmpW x y) = true := by
  have q : ¬ 0 < lcmpW x y := by rw [lcW, lc_gt]; exact h
  exact ⟨(if0 _ _).trans (flt q).2.2.1, (if0 _ _).trans (flt q).2.2.2⟩
theorem own_lc_eq_t {x y : Int64} (h : x = y) : ifCond.holds .eq (lcmpW x y) = true ∧ ifCond.holds .ne (lcmpW x y) = false := by
  have q : lcmpW x y = 0 := by rw [lcW, lc_eq]; exact h
  exact ⟨(if0 _ _).trans (teq q).1, (if0 _ _).trans (teq q).2⟩
theorem own_lc_eq_f {x y : Int64} (h : ¬ (x = y)) : ifCond.holds .eq (lcmpW x y) = false ∧ ifCond.holds .ne (lcmpW x y) = true := by
  have q : ¬ lcmpW x y = 0 := by rw [lcW, lc_eq]; exact h
  exact ⟨(if0 _ _).trans (feq q).1, (if0 _ _).trans (feq q).2⟩
theorem own_lrem {g : JFrame} {target : State} (X : Stand p l e R s m args below meth c T locs cells slots) (hx : p.tables.exec = Jvm.exec) (hg : g.method = m) {x y : Int64} {rest : List Value} (hd : decode c.code g.pc = .ok (.lrem, 1)) (hs : g.stack = .long y :: .long x :: rest) (hy : y ≠ 0)
    (hr : Steps p.tables e below (T.setTop { g with pc := g.pc + 1, stack := .long (x % y) :: rest }) target) : Steps p.tables e below (T.setTop g) target := by
  have q : x - x / y * y = x % y := lrem_mod x y
  exact XS.lrem X.here hx hg hd hs hy (by rw [q]; exact hr)
theorem own_cat {w : Value} (h : w.isRef = true) : w.category = 1 := by rcases ref_cases h with rfl | ⟨a, rfl⟩ <;> rfl
theorem own_narR {w : Value} {t : FieldType} (ht : t.isReference = true) (h : w.isRef = true) : narrow t w = w := by
  cases t <;> first | (cases ht; done) | (rcases ref_cases h with rfl | ⟨a, rfl⟩ <;> rfl)
theorem own_fitR {w : Value} {t : FieldType} (ht : t.isReference = true) (h : w.isRef = true) : fits t w = true := by
  cases t <;> first | (cases ht; done) | (rcases ref_cases h with rfl | ⟨a, rfl⟩ <;> rfl)
theorem own_narb {c : Prop} [Decidable c] {r : Int32} (h : r = if c then 0 else 1) : nar .boolean r = r := by
  by_cases q : c
  · rw [if_pos q] at h; rw [h]; rfl
  · rw [if_neg q] at h; rw [h]; rfl
/-! arrays as lists of values -/
def AL (Z : State) (h : Heap) (a : Addr) (ty : FieldType) (xs : List Value) : Prop := ∃ c : Cell, Arr Z h a c ty ∧ c.slots.toList = xs ∧ xs.length < 2147483648
variable {Z : State} {h h' : Heap} {a b : Addr} {ty : FieldType} {xs : List Value} {sl : Nat} {v : Value} {ws : List Addr} {C n d : String}
theorem AL.lt (F : AL Z h a ty xs) : a < h.size := by obtain ⟨c, A, -⟩ := F; exact A.lt
theorem AL.ext (F : AL Z h a ty xs) (E : Ext h h') : AL Z h' a ty xs := by obtain ⟨c, A, r⟩ := F; exact ⟨c, A.ext E, r⟩
theorem AL.other (F : AL Z h a ty xs) (W : Wr h h' b sl v) (q : a ≠ b) : AL Z h' a ty xs := by obtain ⟨c, A, r⟩ := F; exact ⟨c, A.other W q, r⟩
theorem AL.keep (F : AL Z h a ty xs) (K : Keep h h' ws) (q : a ∉ ws) : AL Z h' a ty xs := by obtain ⟨c, A, r⟩ := F; exact ⟨c, ⟨K.2.1 a c A.1 q, A.2⟩, r⟩
theorem AL.new {k : ClassId} {z : Int32} (A : Arr Z h a (newA k ty z) ty) (q : ¬ z < 0) {i : Nat} (hi : z.toNatClampNeg = i) : AL Z h a ty (List.replicate i (defaultValue ty)) := by
  refine ⟨_, A, ?_, ?_⟩
  · simp [newA, hi]
  · rw [List.length_replicate, ← hi]; exact (back32 q).2
theorem AL.ne {C : String} (F : AL Z h a ty xs) (G : Exa Z h b C) {a0 : Array Value} {k : Nat} (wi : (Cond.instantiable C k).before a0 Z = true) : b ≠ a := by
  obtain ⟨c, A, -⟩ := F; exact ne_arr G wi A
theorem own_idx {cl : Cell} (hc : cl.slots.toList = xs) {j : Int32} {i : Nat} (hj : j.toInt = i) (hi : i < xs.length) : ¬ (j < 0 ∨ cl.slots.size ≤ j.toNatClampNeg) ∧ j.toNatClampNeg = i := by
  have h1 : j.toNatClampNeg = i := by simp only [Int32.toNatClampNeg, hj]; rfl
  have h2 : cl.slots.size = xs.length := by rw [← hc]; simp
  refine ⟨fun q => ?_, h1⟩
  rcases q with q | q
  · rw [Int32.lt_iff_toInt_lt, hj] at q; have e0 : (0 : Int32).toInt = 0 := rfl; omega
  · omega
theorem own_at {cl : Cell} (hc : cl.slots.toList = xs) {i : Nat} : cl.slots[i]? = xs[i]? := by rw [← hc]; simp
theorem AL.set {cl : Cell} (A : Arr Z h a cl ty) (hc : cl.slots.toList = xs) (hl : xs.length < 2147483648) {i : Nat} (W : Wr h h' a i v) : AL Z h' a ty (xs.set i v) := by
  refine ⟨_, A.same W, ?_, by simpa using hl⟩
  simp [Cell.setSlot, hc]
theorem own_stI (X : Stand p l e R s m args below meth c T locs cells slots) (hx : p.tables.exec = Jvm.exec) (hZ : Z.Warmed39 s.vm) (eT : T.heap = h) (A : AL Z h a .int xs) {j x : Int32} (i : Nat) (hj : j.toInt = i) (hi : i < xs.length) {g : JFrame} (hg : g.method = m) {rest : List Value} (hs : g.stack = .int x :: .int j :: .ref a :: rest) (hd : decode c.code g.pc = .ok (.iastore, 1)) :
    ∃ T' h', Stand p l e R s m args below meth c T' (locs ++ [⟨a, i⟩]) cells slots ∧ T'.heap = h' ∧ Wr h h' a i (.int x) ∧ AL Z h' a .int (xs.set i (.int x)) ∧ ∀ target, Steps p.tables e below (T'.setTop { g with pc := g.pc + 1, stack := rest }) target → Steps p.tables e below (T.setTop g) target := by
  obtain ⟨cl, A1, A2, A3⟩ := A
  obtain ⟨q1, q2⟩ := own_idx A2 hj hi
  obtain ⟨T', h', X', e', W, st⟩ := stI X hx hZ eT A1 q1 hg hs hd
  rw [q2] at X' W
  exact ⟨T', h', X', e', W, AL.set A1 A2 A3 W, st⟩
theorem own_stJ (X : Stand p l e R s m args below meth c T locs cells slots) (hx : p.tables.exec = Jvm.exec) (hZ : Z.Warmed39 s.vm) (eT : T.heap = h) (A : AL Z h a .long xs) {j : Int32} {x : Int64} (i : Nat) (hj : j.toInt = i) (hi : i < xs.length) {g : JFrame} (hg : g.method = m) {rest : List Value} (hs : g.stack = .long x :: .int j :: .ref a :: rest) (hd : decode c.code g.pc = .ok (.lastore, 1)) :
    ∃ T' h', Stand p l e R s m args below meth c T' (locs ++ [⟨a, i⟩]) cells slots ∧ T'.heap = h' ∧ Wr h h' a i (.long x) ∧ AL Z h' a .long (xs.set i (.long x)) ∧ ∀ target, Steps p.tables e below (T'.setTop { g with pc := g.pc + 1, stack := rest }) target → Steps p.tables e below (T.setTop g) target := by
  obtain ⟨cl, A1, A2, A3⟩ := A
  obtain ⟨q1, q2⟩ := own_idx A2 hj hi
  obtain ⟨T', h', X', e', W, st⟩ := stJ X hx hZ eT A1 q1 hg hs hd
  rw [q2] at X' W
  exact ⟨T', h', X', e', W, AL.set A1 A2 A3 W, st⟩
theorem own_stB (X : Stand p l e R s m args below meth c T locs cells slots) (hx : p.tables.exec = Jvm.exec) (hZ : Z.Warmed39 s.vm) (eT : T.heap = h) (A : AL Z h a .byte xs) {j x : Int32} (i : Nat) (hj : j.toInt = i) (hi : i < xs.length) {g : JFrame} (hg : g.method = m) {rest : List Value} (hs : g.stack = .int x :: .int j :: .ref a :: rest) (hd : decode c.code g.pc = .ok (.bastore, 1)) :
    ∃ T' h', Stand p l e R s m args below meth c T' (locs ++ [⟨a, i⟩]) cells slots ∧ T'.heap = h' ∧ Wr h h' a i (.int (nar .byte x)) ∧ AL Z h' a .byte (xs.set i (.int (nar .byte x))) ∧ ∀ target, Steps p.tables e below (T'.setTop { g with pc := g.pc + 1, stack := rest }) target → Steps p.tables e below (T.setTop g) target := by
  obtain ⟨cl, A1, A2, A3⟩ := A
  obtain ⟨q1, q2⟩ := own_idx A2 hj hi
  obtain ⟨T', h', X', e', W, st⟩ := stB X hx hZ eT A1 q1 hg hs hd
  rw [q2] at X' W
  exact ⟨T', h', X', e', W, AL.set A1 A2 A3 W, st⟩
theorem own_stZ (X : Stand p l e R s m args below meth c T locs cells slots) (hx : p.tables.exec = Jvm.exec) (hZ : Z.Warmed39 s.vm) (eT : T.heap = h) (A : AL Z h a .boolean xs) {j x : Int32} (i : Nat) (hj : j.toInt = i) (hi : i < xs.length) {g : JFrame} (hg : g.method = m) {rest : List Value} (hs : g.stack = .int x :: .int j :: .ref a :: rest) (hd : decode c.code g.pc = .ok (.bastore, 1)) :
    ∃ T' h', Stand p l e R s m args below meth c T' (locs ++ [⟨a, i⟩]) cells slots ∧ T'.heap = h' ∧ Wr h h' a i (.int (nar .boolean x)) ∧ AL Z h' a .boolean (xs.set i (.int (nar .boolean x))) ∧ ∀ target, Steps p.tables e below (T'.setTop { g with pc := g.pc + 1, stack := rest }) target → Steps p.tables e below (T.setTop g) target := by
  obtain ⟨cl, A1, A2, A3⟩ := A
  obtain ⟨q1, q2⟩ := own_idx A2 hj hi
  obtain ⟨T', h', X', e', W, st⟩ := stZ X hx hZ eT A1 q1 hg hs hd
  rw [q2] at X' W
  exact ⟨T', h', X', e', W, AL.set A1 A2 A3 W, st⟩
theorem own_stC (X : Stand p l e R s m args below meth c T locs cells slots) (hx : p.tables.exec = Jvm.exec) (hZ : Z.Warmed39 s.vm) (eT : T.heap = h) (A : AL Z h a .char xs) {j x : Int32} (i : Nat) (hj : j.toInt = i) (hi : i < xs.length) {g : JFrame} (hg : g.method = m) {rest : List Value} (hs : g.stack = .int x :: .int j :: .ref a :: rest) (hd : decode c.code g.pc = .ok (.castore, 1)) :
    ∃ T' h', Stand p l e R s m args below meth c T' (locs ++ [⟨a, i⟩]) cells slots ∧ T'.heap = h' ∧ Wr h h' a i (.int (nar .char x)) ∧ AL Z h' a .char (xs.set i (.int (nar .char x))) ∧ ∀ target, Steps p.tables e below (T'.setTop { g with pc := g.pc + 1, stack := rest }) target → Steps p.tables e below (T.setTop g) target := by
  obtain ⟨cl, A1, A2, A3⟩ := A
  obtain ⟨q1, q2⟩ := own_idx A2 hj hi
  obtain ⟨T', h', X', e', W, st⟩ := stC X hx hZ eT A1 q1 hg hs hd
  rw [q2] at X' W
  exact ⟨T', h', X', e', W, AL.set A1 A2 A3 W, st⟩
theorem own_lt_len {i : Nat} (hv : xs[i]? = some v) : i < xs.length := (List.getElem?_eq_some_iff.mp hv).1
theorem own_ldI (X : Stand p l e R s m args below meth c T locs cells slots) (hx : p.tables.exec = Jvm.exec) (hZ : Z.Warmed39 s.vm) (eT : T.heap = h) (A : AL Z h a .int xs) {j : Int32} (i : Nat) (hj : j.toInt = i) (hv : xs[i]? = some v) {g : JFrame} (hg : g.method = m) {rest : List Value} (hs : g.stack = .int j :: .ref a :: rest) (hd : decode c.code g.pc = .ok (.iaload, 1)) :
    ∀ target, Steps p.tables e below (T.setTop { g with pc := g.pc + 1, stack := v :: rest }) target → Steps p.tables e below (T.setTop g) target := by
  obtain ⟨cl, A1, A2, A3⟩ := A
  obtain ⟨q1, q2⟩ := own_idx A2 hj (own_lt_len hv)
  exact X.iaload hx (by rw [eT]; exact A1.1) (State.isArrayOf_alike hZ.alike A1.2.1) A1.2.2 q1 (by rw [q2, own_at A2]; exact hv) hg hs hd
theorem own_ldJ (X : Stand p l e R s m args below meth c T locs cells slots) (hx : p.tables.exec = Jvm.exec) (hZ : Z.Warmed39 s.vm) (eT : T.heap = h) (A : AL Z h a .long xs) {j : Int32} (i : Nat) (hj : j.toInt = i) (hv : xs[i]? = some v) {g : JFrame} (hg : g.method = m) {rest : List Value} (hs : g.stack = .int j :: .ref a :: rest) (hd : decode c.code g.pc = .ok (.laload, 1)) :
    ∀ target, Steps p.tables e below (T.setTop { g with pc := g.pc + 1, stack := v :: rest }) target → Steps p.tables e below (T.setTop g) target := by
  obtain ⟨cl, A1, A2, A3⟩ := A
  obtain ⟨q1, q2⟩ := own_idx A2 hj (own_lt_len hv)
  exact X.laload hx (by rw [eT]; exact A1.1) (State.isArrayOf_alike hZ.alike A1.2.1) A1.2.2 q1 (by rw [q2, own_at A2]; exact hv) hg hs hd
theorem own_ldB (X : Stand p l e R s m args below meth c T locs cells slots) (hx : p.tables.exec = Jvm.exec) (hZ : Z.Warmed39 s.vm) (eT : T.heap = h) (A : AL Z h a .byte xs) {j : Int32} (i : Nat) (hj : j.toInt = i) (hv : xs[i]? = some v) {g : JFrame} (hg : g.method = m) {rest : List Value} (hs : g.stack = .int j :: .ref a :: rest) (hd : decode c.code g.pc = .ok (.baload, 1)) :
    ∀ target, Steps p.tables e below (T.setTop { g with pc := g.pc + 1, stack := v :: rest }) target → Steps p.tables e below (T.setTop g) target := by
  obtain ⟨cl, A1, A2, A3⟩ := A
  obtain ⟨q1, q2⟩ := own_idx A2 hj (own_lt_len hv)
  exact X.baloadBytes hx (by rw [eT]; exact A1.1) (State.isArrayOf_alike hZ.alike A1.2.1) A1.2.2 q1 (by rw [q2, own_at A2]; exact hv) hg hs hd
theorem own_ldZ (X : Stand p l e R s m args below meth c T locs cells slots) (hx : p.tables.exec = Jvm.exec) (hZ : Z.Warmed39 s.vm) (eT : T.heap = h) (A : AL Z h a .boolean xs) {j : Int32} (i : Nat) (hj : j.toInt = i) (hv : xs[i]? = some v) {g : JFrame} (hg : g.method = m) {rest : List Value} (hs : g.stack = .int j :: .ref a :: rest) (hd : decode c.code g.pc = .ok (.baload, 1)) :
    ∀ target, Steps p.tables e below (T.setTop { g with pc := g.pc + 1, stack := v :: rest }) target → Steps p.tables e below (T.setTop g) target := by
  obtain ⟨cl, A1, A2, A3⟩ := A
  obtain ⟨q1, q2⟩ := own_idx A2 hj (own_lt_len hv)
  exact X.baloadBooleans hx (by rw [eT]; exact A1.1) (State.isArrayOf_alike hZ.alike A1.2.1) A1.2.2 q1 (by rw [q2, own_at A2]; exact hv) hg hs hd
theorem own_ldC (X : Stand p l e R s m args below meth c T locs cells slots) (hx : p.tables.exec = Jvm.exec) (hZ : Z.Warmed39 s.vm) (eT : T.heap = h) (A : AL Z h a .char xs) {j : Int32} (i : Nat) (hj : j.toInt = i) (hv : xs[i]? = some v) {g : JFrame} (hg : g.method = m) {rest : List Value} (hs : g.stack = .int j :: .ref a :: rest) (hd : decode c.code g.pc = .ok (.caload, 1)) :
    ∀ target, Steps p.tables e below (T.setTop { g with pc := g.pc + 1, stack := v :: rest }) target → Steps p.tables e below (T.setTop g) target := by
  obtain ⟨cl, A1, A2, A3⟩ := A
  obtain ⟨q1, q2⟩ := own_idx A2 hj (own_lt_len hv)
  exact X.caload hx (by rw [eT]; exact A1.1) (State.isArrayOf_alike hZ.alike A1.2.1) A1.2.2 q1 (by rw [q2, own_at A2]; exact hv) hg hs hd
theorem own_ldA (X : Stand p l e R s m args below meth c T locs cells slots) (hx : p.tables.exec = Jvm.exec) (hZ : Z.Warmed39 s.vm) (eT : T.heap = h) (A : AL Z h a ty xs) (hty : ty.isReference = true) {j : Int32} (i : Nat) (hj : j.toInt = i) (hv : xs[i]? = some v) {g : JFrame} (hg : g.method = m) {rest : List Value} (hs : g.stack = .int j :: .ref a :: rest) (hd : decode c.code g.pc = .ok (.aaload, 1)) :
    ∀ target, Steps p.tables e below (T.setTop { g with pc := g.pc + 1, stack := v :: rest }) target → Steps p.tables e below (T.setTop g) target := by
  obtain ⟨cl, A1, A2, A3⟩ := A
  obtain ⟨q1, q2⟩ := own_idx A2 hj (own_lt_len hv)
  exact X.aaload hx (by rw [eT]; exact A1.1) (State.isArrayOf_alike hZ.alike A1.2.1) hty A1.2.2 q1 (by rw [q2, own_at A2]; exact hv) hg hs hd
theorem own_len (X : Stand p l e R s m args below meth c T locs cells slots) (hx : p.tables.exec = Jvm.exec) (hZ : Z.Warmed39 s.vm) (eT : T.heap = h) (A : AL Z h a ty xs) {z : Int32} (hz : z.toInt = xs.length) {g : JFrame} (hg : g.method = m) {rest : List Value} (hs : g.stack = .ref a :: rest) (hd : decode c.code g.pc = .ok (.arraylength, 1)) :
    ∀ target, Steps p.tables e below (T.setTop { g with pc := g.pc + 1, stack := .int z :: rest }) target → Steps p.tables e below (T.setTop g) target := by
  obtain ⟨cl, A1, A2, A3⟩ := A
  have h2 : cl.slots.size = xs.length := by rw [← A2]; simp
  have e1 : cl.slots.size.toInt32 = z := Int32.toInt_inj.mp (by rw [len_toInt (by omega), hz, h2])
  intro target k
  exact X.arraylength hx (by rw [eT]; exact A1.1) (State.isArrayOf_alike hZ.alike A1.2.1) hg hs hd target (by rw [e1]; exact k)
end Own

theorem own_nar1 : nar .boolean (1 : Int32) = 1 := rfl
theorem own_nar0 : nar .boolean (0 : Int32) = 0 := rfl
def own_fin (a o f k : Addr) : Int32 := if a = o then 1 else if a = f then 1 else if a = k then 1 else 0
theorem own_fin0 {a o f k : Addr} (h1 : a ≠ o) (h2 : a ≠ f) (h3 : a ≠ k) : own_fin a o f k = 0 := by simp only [own_fin, if_neg h1, if_neg h2, if_neg h3]
theorem own_fin1 {a o f k : Addr} (h : a = o ∨ a = f ∨ a = k) : own_fin a o f k = 1 := by
  unfold own_fin
  by_cases q1 : a = o
  · rw [if_pos q1]
  · by_cases q2 : a = f
    · rw [if_neg q1, if_pos q2]
    · rw [if_neg q1, if_neg q2, if_pos (by rcases h with h | h | h; exact absurd h q1; exact absurd h q2; exact h)]
theorem own_eqF {t : Term} {args : Array Value} {s : State} {x : Addr} {C n d : String} {k : Int32} (ht : t.eval args s none [] s = some (.ref x)) (h : (Jvm.Cond.eq (Jvm.Term.field t C n d) (Jvm.Term.int k)).value args s none s [] = some true) : Fld s s.heap x C n d (.int k) := by
  refine Fld.start ?_
  obtain ⟨u, w, e1, e2, k1, k2⟩ := cmp_v (Or.inl h)
  have e3 : w = .int k := Option.some.inj (e2.symm.trans (Term.int_eval k))
  subst e3
  obtain ⟨z, rfl⟩ := k2
  have e4 : z = k := gotT (Cond.eq_ints e1 e2) h
  rw [fld_at ht] at e1
  rw [e1, e4]
theorem d1_0 : decode prog_53_method_4_code 0 = .ok (.aload_n 0, 1) := by decide +kernel
theorem d1_1 : decode prog_53_method_4_code 1 = .ok (.getstatic 13, 3) := by decide +kernel
theorem d1_4 : decode prog_53_method_4_code 4 = .ok (.if_acmp .eq 17, 3) := by decide +kernel
theorem d1_7 : decode prog_53_method_4_code 7 = .ok (.aload_n 0, 1) := by decide +kernel
theorem d1_8 : decode prog_53_method_4_code 8 = .ok (.getstatic 16, 3) := by decide +kernel
theorem d1_11 : decode prog_53_method_4_code 11 = .ok (.if_acmp .eq 10, 3) := by decide +kernel
theorem d1_14 : decode prog_53_method_4_code 14 = .ok (.aload_n 0, 1) := by decide +kernel
theorem d1_15 : decode prog_53_method_4_code 15 = .ok (.getstatic 19, 3) := by decide +kernel
theorem d1_18 : decode prog_53_method_4_code 18 = .ok (.if_acmp .ne 7, 3) := by decide +kernel
theorem d1_21 : decode prog_53_method_4_code 21 = .ok (.iconst 1, 1) := by decide +kernel
theorem d1_22 : decode prog_53_method_4_code 22 = .ok (.goto 4, 3) := by decide +kernel
theorem d1_25 : decode prog_53_method_4_code 25 = .ok (.iconst 0, 1) := by decide +kernel
theorem d1_26 : decode prog_53_method_4_code 26 = .ok (.ireturn, 1) := by decide +kernel
theorem pn_0 : plainName "com/example/bonded_depot/bondeddepot/processing/MessageState" = true := by first | (simp [plainName, overriddenIn]; done) | decide +kernel
theorem ef_1 (m : MethodId) (a0 : Addr) : entryFrame m #[(.ref a0)] 1 = mkF m 0 #[.val (.ref a0)] [] := by first | (simp [entryFrame, mkF, argsToLocals, Value.category]; done) | rfl
def Q1 (Z : State) (a0 : Addr) (sOK : Addr) (sFAILED : Addr) (sSKIPPED : Addr) (h0 : Heap) (n0 : Nat) (v : Option Value) (h : Heap) (L : List Loc) : Prop := v = some (.int (own_fin a0 sOK sFAILED sSKIPPED)) ∧ Fr n0 L ∧ h = h0
set_option maxRecDepth 65536 in
set_option maxHeartbeats 40000000 in
theorem rm1 (l : Launch) (Z : State) (aw : Array Value) (hw : ∀ d ∈ tables_1, d.before aw Z = true) (ws : List Jvm.Cond) (a0 : Addr) (sOK : Addr) (sFAILED : Addr) (sSKIPPED : Addr) (h0 : Heap) (n0 : Nat) (Z0 : n0 ≤ h0.size) (S_OK : Sta Z Z.heap "com/example/bonded_depot/bondeddepot/processing/MessageState" "OK" "Lcom/example/bonded_depot/bondeddepot/processing/MessageState;" (.ref sOK)) (S_FAILED : Sta Z Z.heap "com/example/bonded_depot/bondeddepot/processing/MessageState" "FAILED" "Lcom/example/bonded_depot/bondeddepot/processing/MessageState;" (.ref sFAILED)) (S_SKIPPED : Sta Z Z.heap "com/example/bonded_depot/bondeddepot/processing/MessageState" "SKIPPED" "Lcom/example/bonded_depot/bondeddepot/processing/MessageState;" (.ref sSKIPPED)) (O0 : Old Z n0 h0) :
    MetFree l (⟨"com/example/bonded_depot/bondeddepot/processing/MessageState", "isFinal", "()Z"⟩ : MethodName) (head1 (Jvm.Cond.code (⟨"com/example/bonded_depot/bondeddepot/processing/MessageState", "isFinal", "()Z"⟩ : MethodName) prog_53_method_4_code 1 (some .boolean) :: ws) ({ frames := 0, cells := 0, slots := 0, locals := 0 } : Room)) (fun a U => a = #[(.ref a0)] ∧ Z.Warmed39 U.vm ∧ U.heap = h0) (fun _ _ _ _ _ => True) (fun _ U o U' => ∃ v L, o = .returned v ∧ Q1 Z a0 sOK sFAILED sSKIPPED h0 n0 v U'.heap L ∧ FrameEnd U o U' L ({ frames := 0, cells := 0, slots := 0, locals := 0 } : Room).cells ({ frames := 0, cells := 0, slots := 0, locals := 0 } : Room).slots) := by
  refine MetFree.of_bodySF (plainFor_of_name pn_0) hisR ?_
  intro p e s m args below meth c s₁ Bd hml0 hP hK
  obtain ⟨rfl, hZ, hh⟩ := hP
  have hx := Bd.exec
  have hby := Bd.bytes
  have hml : c.maxLocals = 1 := hml0
  have hown : s.vm.findClass "com/example/bonded_depot/bondeddepot/processing/MessageState" = some m.cls := findClass_of_methodNamed Bd.named
  have hnm := (name_of_methodNamed Bd.named Bd.method).1
  have hlk : meth.locks = false := Bd.notSynchronized
  have X0 : Stand p l e ({ frames := 0, cells := 0, slots := 0, locals := 0 } : Room) s m #[(.ref a0)] below meth c s₁ [] 0 0 := Stand.of_body Bd
  have e0 : s₁.heap = h0 := by rw [← hh, Bd.state]; rfl
  have N0 := Fr.nil n0
  show OwnEnds p.tables e below (OwnQ s ({ frames := 0, cells := 0, slots := 0, locals := 0 } : Room).cells ({ frames := 0, cells := 0, slots := 0, locals := 0 } : Room).slots (Q1 Z a0 sOK sFAILED sSKIPPED h0 n0)) (s₁.setTop (entryFrame m #[(.ref a0)] 1))
  refine own_via (fun t k => castTop (ef_1 m a0) k) ?_
  show OwnEnds p.tables e below _ (s₁.setTop (mkF m 0 #[.val (.ref a0)] []))
  refine own_via (fun t k => XS.aloadN X0.here hx rfl (hb hby d1_0) rfl rfl k) ?_
  show OwnEnds p.tables e below _ (s₁.setTop (mkF m 1 #[.val (.ref a0)] [(.ref a0)]))
  obtain ⟨T1, X1, e1, st1⟩ := getS2 X0 hx hZ hown (host := "") (Or.inl (hw _ (List.mem_of_getElem? (i := 9) rfl))) Via.refl e0 (S_OK.ext O0.2) (g := (mkF m 1 #[.val (.ref a0)] [(.ref a0)])) rfl (hb hby d1_1)
  refine own_via st1 ?_
  show OwnEnds p.tables e below _ (T1.setTop (mkF m 4 #[.val (.ref a0)] [(.ref sOK), (.ref a0)]))
  by_cases hc4_2 : a0 = sOK
  · skip
    refine own_via (fun t k => Jvm.RoadKit.acmp (g := (mkF m 4 #[.val (.ref a0)] [(.ref sOK), (.ref a0)])) X1 hx rfl rfl rfl (pc0 := 4) (pc' := 21) (same := true) rfl (hb hby d1_4) rfl (decide_eq_true (congrArg Value.ref hc4_2)) (by decide) (by decide) k) ?_
    show OwnEnds p.tables e below _ (T1.setTop (mkF m 21 #[.val (.ref a0)] []))
    refine own_via (fun t k => XS.iconst X1.here hx rfl (hb hby d1_21) k) ?_
    show OwnEnds p.tables e below _ (T1.setTop (mkF m 22 #[.val (.ref a0)] [(.int (1 : Int32))]))
    refine own_via (fun t k => XS.goto X1.here hx rfl (pc0 := 22) (pc' := 26) rfl (hb hby d1_22) (by decide) (by decide) k) ?_
    show OwnEnds p.tables e below _ (T1.setTop (mkF m 26 #[.val (.ref a0)] [(.int (1 : Int32))]))
    refine own_retN (t := .boolean) X1 hx Bd.returns (by simp) hlk (hb hby d1_26) ?_ (by decide) (by decide)
    rw [e1]
    exact ⟨congrArg (fun z => some (Value.int z)) (show nar .boolean (1 : Int32) = own_fin a0 sOK sFAILED sSKIPPED by simp only [own_fin, if_pos hc4_2, own_nar1, own_nar0]), N0, rfl⟩
  · skip
    refine own_via (fun t k => Jvm.RoadKit.acmp (g := (mkF m 4 #[.val (.ref a0)] [(.ref sOK), (.ref a0)])) X1 hx rfl rfl rfl (pc0 := 4) (pc' := 7) (same := false) rfl (hb hby d1_4) rfl (decide_eq_false (fun q => hc4_2 (Value.ref.inj q))) (by decide) (by decide) k) ?_
    show OwnEnds p.tables e below _ (T1.setTop (mkF m 7 #[.val (.ref a0)] []))
    refine own_via (fun t k => XS.aloadN X1.here hx rfl (hb hby d1_7) rfl rfl k) ?_
    show OwnEnds p.tables e below _ (T1.setTop (mkF m 8 #[.val (.ref a0)] [(.ref a0)]))
    obtain ⟨T3, X3, e3, st3⟩ := getS2 X1 hx hZ hown (host := "") (Or.inl (hw _ (List.mem_of_getElem? (i := 11) rfl))) Via.refl e1 (S_FAILED.ext O0.2) (g := (mkF m 8 #[.val (.ref a0)] [(.ref a0)])) rfl (hb hby d1_8)
    refine own_via st3 ?_
    show OwnEnds p.tables e below _ (T3.setTop (mkF m 11 #[.val (.ref a0)] [(.ref sFAILED), (.ref a0)]))
    by_cases hc11_4 : a0 = sFAILED
    · skip
      refine own_via (fun t k => Jvm.RoadKit.acmp (g := (mkF m 11 #[.val (.ref a0)] [(.ref sFAILED), (.ref a0)])) X3 hx rfl rfl rfl (pc0 := 11) (pc' := 21) (same := true) rfl (hb hby d1_11) rfl (decide_eq_true (congrArg Value.ref hc11_4)) (by decide) (by decide) k) ?_
      show OwnEnds p.tables e below _ (T3.setTop (mkF m 21 #[.val (.ref a0)] []))
      refine own_via (fun t k => XS.iconst X3.here hx rfl (hb hby d1_21) k) ?_
      show OwnEnds p.tables e below _ (T3.setTop (mkF m 22 #[.val (.ref a0)] [(.int (1 : Int32))]))
      refine own_via (fun t k => XS.goto X3.here hx rfl (pc0 := 22) (pc' := 26) rfl (hb hby d1_22) (by decide) (by decide) k) ?_
      show OwnEnds p.tables e below _ (T3.setTop (mkF m 26 #[.val (.ref a0)] [(.int (1 : Int32))]))
      refine own_retN (t := .boolean) X3 hx Bd.returns (by simp) hlk (hb hby d1_26) ?_ (by decide) (by decide)
      rw [e3]
      exact ⟨congrArg (fun z => some (Value.int z)) (show nar .boolean (1 : Int32) = own_fin a0 sOK sFAILED sSKIPPED by simp only [own_fin, if_neg hc4_2, if_pos hc11_4, own_nar1, own_nar0]), N0, rfl⟩
    · skip
      refine own_via (fun t k => Jvm.RoadKit.acmp (g := (mkF m 11 #[.val (.ref a0)] [(.ref sFAILED), (.ref a0)])) X3 hx rfl rfl rfl (pc0 := 11) (pc' := 14) (same := false) rfl (hb hby d1_11) rfl (decide_eq_false (fun q => hc11_4 (Value.ref.inj q))) (by decide) (by decide) k) ?_
      show OwnEnds p.tables e below _ (T3.setTop (mkF m 14 #[.val (.ref a0)] []))
      refine own_via (fun t k => XS.aloadN X3.here hx rfl (hb hby d1_14) rfl rfl k) ?_
      show OwnEnds p.tables e below _ (T3.setTop (mkF m 15 #[.val (.ref a0)] [(.ref a0)]))
      obtain ⟨T5, X5, e5, st5⟩ := getS2 X3 hx hZ hown (host := "") (Or.inl (hw _ (List.mem_of_getElem? (i := 13) rfl))) Via.refl e3 (S_SKIPPED.ext O0.2) (g := (mkF m 15 #[.val (.ref a0)] [(.ref a0)])) rfl (hb hby d1_15)
      refine own_via st5 ?_
      show OwnEnds p.tables e below _ (T5.setTop (mkF m 18 #[.val (.ref a0)] [(.ref sSKIPPED), (.ref a0)]))
      by_cases hc18_6 : a0 = sSKIPPED
      · skip
        refine own_via (fun t k => Jvm.RoadKit.acmp (g := (mkF m 18 #[.val (.ref a0)] [(.ref sSKIPPED), (.ref a0)])) X5 hx rfl rfl rfl (pc0 := 18) (pc' := 21) (same := true) rfl (hb hby d1_18) rfl (decide_eq_true (congrArg Value.ref hc18_6)) (by decide) (by decide) k) ?_
        show OwnEnds p.tables e below _ (T5.setTop (mkF m 21 #[.val (.ref a0)] []))
        refine own_via (fun t k => XS.iconst X5.here hx rfl (hb hby d1_21) k) ?_
        show OwnEnds p.tables e below _ (T5.setTop (mkF m 22 #[.val (.ref a0)] [(.int (1 : Int32))]))
        refine own_via (fun t k => XS.goto X5.here hx rfl (pc0 := 22) (pc' := 26) rfl (hb hby d1_22) (by decide) (by decide) k) ?_
        show OwnEnds p.tables e below _ (T5.setTop (mkF m 26 #[.val (.ref a0)] [(.int (1 : Int32))]))
        refine own_retN (t := .boolean) X5 hx Bd.returns (by simp) hlk (hb hby d1_26) ?_ (by decide) (by decide)
        rw [e5]
        exact ⟨congrArg (fun z => some (Value.int z)) (show nar .boolean (1 : Int32) = own_fin a0 sOK sFAILED sSKIPPED by simp only [own_fin, if_neg hc4_2, if_neg hc11_4, if_pos hc18_6, own_nar1, own_nar0]), N0, rfl⟩
      · skip
        refine own_via (fun t k => Jvm.RoadKit.acmp (g := (mkF m 18 #[.val (.ref a0)] [(.ref sSKIPPED), (.ref a0)])) X5 hx rfl rfl rfl (pc0 := 18) (pc' := 25) (same := false) rfl (hb hby d1_18) rfl (decide_eq_false (fun q => hc18_6 (Value.ref.inj q))) (by decide) (by decide) k) ?_
        show OwnEnds p.tables e below _ (T5.setTop (mkF m 25 #[.val (.ref a0)] []))
        refine own_via (fun t k => XS.iconst X5.here hx rfl (hb hby d1_25) k) ?_
        show OwnEnds p.tables e below _ (T5.setTop (mkF m 26 #[.val (.ref a0)] [(.int (0 : Int32))]))
        refine own_retN (t := .boolean) X5 hx Bd.returns (by simp) hlk (hb hby d1_26) ?_ (by decide) (by decide)
        rw [e5]
        exact ⟨congrArg (fun z => some (Value.int z)) (show nar .boolean (0 : Int32) = own_fin a0 sOK sFAILED sSKIPPED by simp only [own_fin, if_neg hc4_2, if_neg hc11_4, if_neg hc18_6, own_nar1, own_nar0]), N0, rfl⟩
theorem pn_1 : plainName "com/example/bonded_depot/bondeddepot/processing/MessageStateIsFinalPinLaw" = true := by first | (simp [plainName, overriddenIn]; done) | decide +kernel
theorem ef_0 (m : MethodId) (p0 : Int32) : entryFrame m #[(.int p0)] maxLocals = mkF m 0 #[.val (.int p0), .unset, .unset, .unset] [] := by first | (simp [entryFrame, mkF, argsToLocals, Value.category, maxLocals]; done) | rfl
def Q0 (Z : State) (p0 : Int32) (sIN_QUEUE : Addr) (sPROCESSING : Addr) (sPARTLY_FAILED : Addr) (sOK : Addr) (sFAILED : Addr) (sSKIPPED : Addr) (h0 : Heap) (n0 : Nat) (v : Option Value) (h : Heap) (L : List Loc) : Prop := v = some (.int 1) ∧ Fr n0 L
theorem pd_0 : parseMethodDescriptor "()Z" = some ⟨[], some .boolean⟩ := by decide +kernel
set_option maxRecDepth 65536 in
set_option maxHeartbeats 40000000 in
theorem rm0 (l : Launch) (Z : State) (aw : Array Value) (hw : ∀ d ∈ tables_1, d.before aw Z = true) (ws : List Jvm.Cond) (p0 : Int32) (sIN_QUEUE : Addr) (sPROCESSING : Addr) (sPARTLY_FAILED : Addr) (sOK : Addr) (sFAILED : Addr) (sSKIPPED : Addr) (h0 : Heap) (n0 : Nat) (Z0 : n0 ≤ h0.size) (S_IN_QUEUE : Sta Z Z.heap "com/example/bonded_depot/bondeddepot/processing/MessageState" "IN_QUEUE" "Lcom/example/bonded_depot/bondeddepot/processing/MessageState;" (.ref sIN_QUEUE)) (S_PROCESSING : Sta Z Z.heap "com/example/bonded_depot/bondeddepot/processing/MessageState" "PROCESSING" "Lcom/example/bonded_depot/bondeddepot/processing/MessageState;" (.ref sPROCESSING)) (S_PARTLY_FAILED : Sta Z Z.heap "com/example/bonded_depot/bondeddepot/processing/MessageState" "PARTLY_FAILED" "Lcom/example/bonded_depot/bondeddepot/processing/MessageState;" (.ref sPARTLY_FAILED)) (S_OK : Sta Z Z.heap "com/example/bonded_depot/bondeddepot/processing/MessageState" "OK" "Lcom/example/bonded_depot/bondeddepot/processing/MessageState;" (.ref sOK)) (S_FAILED : Sta Z Z.heap "com/example/bonded_depot/bondeddepot/processing/MessageState" "FAILED" "Lcom/example/bonded_depot/bondeddepot/processing/MessageState;" (.ref sFAILED)) (S_SKIPPED : Sta Z Z.heap "com/example/bonded_depot/bondeddepot/processing/MessageState" "SKIPPED" "Lcom/example/bonded_depot/bondeddepot/processing/MessageState;" (.ref sSKIPPED)) (E_sIN_QUEUE : Exa Z h0 sIN_QUEUE "com/example/bonded_depot/bondeddepot/processing/MessageState") (E_sPROCESSING : Exa Z h0 sPROCESSING "com/example/bonded_depot/bondeddepot/processing/MessageState") (E_sPARTLY_FAILED : Exa Z h0 sPARTLY_FAILED "com/example/bonded_depot/bondeddepot/processing/MessageState") (E_sOK : Exa Z h0 sOK "com/example/bonded_depot/bondeddepot/processing/MessageState") (E_sFAILED : Exa Z h0 sFAILED "com/example/bonded_depot/bondeddepot/processing/MessageState") (E_sSKIPPED : Exa Z h0 sSKIPPED "com/example/bonded_depot/bondeddepot/processing/MessageState") (O0 : Old Z n0 h0) (ne_IN_QUEUE_OK : sIN_QUEUE ≠ sOK) (ne_IN_QUEUE_FAILED : sIN_QUEUE ≠ sFAILED) (ne_IN_QUEUE_SKIPPED : sIN_QUEUE ≠ sSKIPPED) (ne_PROCESSING_OK : sPROCESSING ≠ sOK) (ne_PROCESSING_FAILED : sPROCESSING ≠ sFAILED) (ne_PROCESSING_SKIPPED : sPROCESSING ≠ sSKIPPED) (ne_PARTLY_FAILED_OK : sPARTLY_FAILED ≠ sOK) (ne_PARTLY_FAILED_FAILED : sPARTLY_FAILED ≠ sFAILED) (ne_PARTLY_FAILED_SKIPPED : sPARTLY_FAILED ≠ sSKIPPED) :
    MetFree l x (head1 (Jvm.Cond.code x code maxLocals ret :: ws) room_1) (fun a U => a = #[(.int p0)] ∧ Z.Warmed39 U.vm ∧ U.heap = h0) (fun _ _ _ _ _ => True) (fun _ U o U' => ∃ v L, o = .returned v ∧ Q0 Z p0 sIN_QUEUE sPROCESSING sPARTLY_FAILED sOK sFAILED sSKIPPED h0 n0 v U'.heap L ∧ FrameEnd U o U' L 0 0) := by
  refine MetFree.of_bodySF (plainFor_of_name pn_1) hisR ?_
  intro p e s m args below meth c s₁ Bd hml0 hP hK
  obtain ⟨rfl, hZ, hh⟩ := hP
  have hx := Bd.exec
  have hby := Bd.bytes
  have hml : c.maxLocals = 4 := hml0
  have hown : s.vm.findClass "com/example/bonded_depot/bondeddepot/processing/MessageStateIsFinalPinLaw" = some m.cls := findClass_of_methodNamed Bd.named
  have hnm := (name_of_methodNamed Bd.named Bd.method).1
  have hlk : meth.locks = false := Bd.notSynchronized
  have X0 : Stand p l e room_1 s m #[(.int p0)] below meth c s₁ [] 0 0 := Stand.of_body Bd
  have e0 : s₁.heap = h0 := by rw [← hh, Bd.state]; rfl
  have N0 := Fr.nil n0
  show OwnEnds p.tables e below (OwnQ s 0 0 (Q0 Z p0 sIN_QUEUE sPROCESSING sPARTLY_FAILED sOK sFAILED sSKIPPED h0 n0)) (s₁.setTop (entryFrame m #[(.int p0)] maxLocals))
  refine own_via (fun t k => castTop (ef_0 m p0) k) ?_
  show OwnEnds p.tables e below _ (s₁.setTop (mkF m 0 #[.val (.int p0), .unset, .unset, .unset] []))
  refine own_via (fun t k => XS.iloadN X0.here hx rfl (hb hby at_0) rfl k) ?_
  show OwnEnds p.tables e below _ (s₁.setTop (mkF m 1 #[.val (.int p0), .unset, .unset, .unset] [(.int p0)]))
  refine own_via (X0.ldcInt hx hown (mvT hZ (hw _ (List.mem_of_getElem? (i := 0) rfl))) (g := (mkF m 1 #[.val (.int p0), .unset, .unset, .unset] [(.int p0)])) rfl (hb hby at_1)) ?_
  show OwnEnds p.tables e below _ (s₁.setTop (mkF m 3 #[.val (.int p0), .unset, .unset, .unset] [(.int (2147483647 : Int32)), (.int p0)]))
  refine own_via (fun t k => XS.iand X0.here hx rfl (hb hby at_3) rfl k) ?_
  show OwnEnds p.tables e below _ (s₁.setTop (mkF m 4 #[.val (.int p0), .unset, .unset, .unset] [(.int (p0 &&& (2147483647 : Int32)))]))
  refine own_via (fun t k => XS.bipush X0.here hx rfl (hb hby at_4) k) ?_
  show OwnEnds p.tables e below _ (s₁.setTop (mkF m 6 #[.val (.int p0), .unset, .unset, .unset] [(.int (6 : Int32)), (.int (p0 &&& (2147483647 : Int32)))]))
  refine own_via (fun t k => Jvm.RoadKit.iremM X0 hx rfl (hb hby at_6) rfl (by decide) k) ?_
  show OwnEnds p.tables e below _ (s₁.setTop (mkF m 7 #[.val (.int p0), .unset, .unset, .unset] [(.int ((p0 &&& (2147483647 : Int32)) % (6 : Int32)))]))
  obtain ⟨kk, h_kk⟩ : ∃ z, z = ((p0 &&& (2147483647 : Int32)) % (6 : Int32)) := ⟨_, rfl⟩
  rw [← h_kk]
  refine own_via (fun t k => XS.istoreN X0.here hx rfl (hb hby at_7) rfl (l' := #[.val (.int p0), .val (.int kk), .unset, .unset]) rfl k) ?_
  show OwnEnds p.tables e below _ (s₁.setTop (mkF m 8 #[.val (.int p0), .val (.int kk), .unset, .unset] []))
  refine own_via (fun t k => XS.iloadN X0.here hx rfl (hb hby at_8) rfl k) ?_
  show OwnEnds p.tables e below _ (s₁.setTop (mkF m 9 #[.val (.int p0), .val (.int kk), .unset, .unset] [(.int kk)]))
  by_cases hc9_1 : kk = (0 : Int32)
  · skip
    refine own_via (fun t k => XS.ifNo X0.here hx rfl (hb hby at_9) rfl ((if0 _ _).trans (teq hc9_1).2) k) ?_
    show OwnEnds p.tables e below _ (s₁.setTop (mkF m 12 #[.val (.int p0), .val (.int kk), .unset, .unset] []))
    obtain ⟨T2, X2, e2, st2⟩ := getS2 X0 hx hZ hown (host := "") (Or.inl (hw _ (List.mem_of_getElem? (i := 1) rfl))) Via.refl e0 (S_IN_QUEUE.ext O0.2) (g := (mkF m 12 #[.val (.int p0), .val (.int kk), .unset, .unset] [])) rfl (hb hby at_12)
    refine own_via st2 ?_
    show OwnEnds p.tables e below _ (T2.setTop (mkF m 15 #[.val (.int p0), .val (.int kk), .unset, .unset] [(.ref sIN_QUEUE)]))
    refine own_via (fun t k => XS.astoreN X2.here hx rfl (hb hby at_15) rfl rfl (l' := #[.val (.int p0), .val (.int kk), .val (.ref sIN_QUEUE), .unset]) rfl k) ?_
    show OwnEnds p.tables e below _ (T2.setTop (mkF m 16 #[.val (.int p0), .val (.int kk), .val (.ref sIN_QUEUE), .unset] []))
    refine own_via (fun t k => XS.iconst X2.here hx rfl (hb hby at_16) k) ?_
    show OwnEnds p.tables e below _ (T2.setTop (mkF m 17 #[.val (.int p0), .val (.int kk), .val (.ref sIN_QUEUE), .unset] [(.int (0 : Int32))]))
    refine own_via (fun t k => XS.istoreN X2.here hx rfl (hb hby at_17) rfl (l' := #[.val (.int p0), .val (.int kk), .val (.ref sIN_QUEUE), .val (.int (0 : Int32))]) rfl k) ?_
    show OwnEnds p.tables e below _ (T2.setTop (mkF m 18 #[.val (.int p0), .val (.int kk), .val (.ref sIN_QUEUE), .val (.int (0 : Int32))] []))
    refine own_via (fun t k => XS.goto X2.here hx rfl (pc0 := 18) (pc' := 83) rfl (hb hby at_18) (by decide) (by decide) k) ?_
    show OwnEnds p.tables e below _ (T2.setTop (mkF m 83 #[.val (.int p0), .val (.int kk), .val (.ref sIN_QUEUE), .val (.int (0 : Int32))] []))
    refine own_via (fun t k => XS.aloadN X2.here hx rfl (hb hby at_83) rfl rfl k) ?_
    show OwnEnds p.tables e below _ (T2.setTop (mkF m 84 #[.val (.int p0), .val (.int kk), .val (.ref sIN_QUEUE), .val (.int (0 : Int32))] [(.ref sIN_QUEUE)]))
    obtain ⟨cq3, kq3, q3a, q3b, q3c⟩ := isOf hZ e2 E_sIN_QUEUE
    obtain ⟨_, _, ⟨T3, L3, k3, n3⟩, -, X3, ⟨Lc3, hQ3, l3, y3, z3⟩, st3⟩ := X2.virtualBack hx (y := (⟨"com/example/bonded_depot/bondeddepot/processing/MessageState", "isFinal", "()Z"⟩ : MethodName)) (z := (⟨"com/example/bonded_depot/bondeddepot/processing/MessageState", "isFinal", "()Z"⟩ : MethodName)) hown (mvT hZ (hw _ (List.mem_of_getElem? (i := 4) rfl))) (mvT hZ (hw _ (List.mem_of_getElem? (i := 5) rfl))) (notFace_of_selects (args := #[]) (mvT hZ (hw _ (List.mem_of_getElem? (i := 7) rfl)))) (mvT hZ (hw _ (List.mem_of_getElem? (i := 7) rfl))) (mvT hZ (hw _ (List.mem_of_getElem? (i := 6) rfl))) (by decide) (backOf (W := 0) (rm1 l Z aw hw [] sIN_QUEUE sOK sFAILED sSKIPPED h0 n0 Z0 S_OK S_FAILED S_SKIPPED O0) hZ (hw _ (List.mem_of_getElem? (i := 8) rfl)) (hw _ (List.mem_of_getElem? (i := 2) rfl)) (by decide) (by decide)) q3a q3c (g := (mkF m 84 #[.val (.int p0), .val (.int kk), .val (.ref sIN_QUEUE), .val (.int (0 : Int32))] [(.ref sIN_QUEUE)])) rfl (by rw [hml]; rfl) (Steps.refl _) (argsL := []) (rest := []) (lenOf pd_0 rfl) rfl (by show 2 * 0 + _ ≤ _; exact Nat.le_of_eq rfl) (hb hby at_84) (fun _ _ => ⟨rfl, e2, (by decide : 0 + 0 ≤ _), (by decide : 0 + 0 ≤ _)⟩)
    dsimp only [Pt.U, Pt.locs, Pt.cells, Pt.slots] at X3 l3 y3 z3 st3 hQ3
    subst l3 y3 z3
    obtain ⟨rfl, Nq3, e3⟩ := hQ3
    have N3 := Fr.app N0 Nq3
    replace e3 : T3.heap = h0 := e3
    refine own_of st3 ?_
    show OwnEnds p.tables e below _ (T3.setTop (mkF m 87 #[.val (.int p0), .val (.int kk), .val (.ref sIN_QUEUE), .val (.int (0 : Int32))] [(.int (own_fin sIN_QUEUE sOK sFAILED sSKIPPED))]))
    refine own_via (fun t k => XS.iloadN X3.here hx rfl (hb hby at_87) rfl k) ?_
    show OwnEnds p.tables e below _ (T3.setTop (mkF m 88 #[.val (.int p0), .val (.int kk), .val (.ref sIN_QUEUE), .val (.int (0 : Int32))] [(.int (0 : Int32)), (.int (own_fin sIN_QUEUE sOK sFAILED sSKIPPED))]))
    have hc88_4 : (own_fin sIN_QUEUE sOK sFAILED sSKIPPED) = (0 : Int32) := own_fin0 ne_IN_QUEUE_OK ne_IN_QUEUE_FAILED ne_IN_QUEUE_SKIPPED
    refine own_via (fun t k => XS.icmpNo X3.here hx rfl (hb hby at_88) rfl (teq hc88_4).2 k) ?_
    show OwnEnds p.tables e below _ (T3.setTop (mkF m 91 #[.val (.int p0), .val (.int kk), .val (.ref sIN_QUEUE), .val (.int (0 : Int32))] []))
    refine own_via (fun t k => XS.iconst X3.here hx rfl (hb hby at_91) k) ?_
    show OwnEnds p.tables e below _ (T3.setTop (mkF m 92 #[.val (.int p0), .val (.int kk), .val (.ref sIN_QUEUE), .val (.int (0 : Int32))] [(.int (1 : Int32))]))
    refine own_via (fun t k => XS.goto X3.here hx rfl (pc0 := 92) (pc' := 96) rfl (hb hby at_92) (by decide) (by decide) k) ?_
    show OwnEnds p.tables e below _ (T3.setTop (mkF m 96 #[.val (.int p0), .val (.int kk), .val (.ref sIN_QUEUE), .val (.int (0 : Int32))] [(.int (1 : Int32))]))
    refine own_retN (t := .boolean) X3 hx Bd.returns (by simp) hlk (hb hby at_96) ?_ (by decide) (by decide)
    rw [e3]
    exact ⟨rfl, N3⟩
  · skip
    refine own_via (fun t k => XS.ifYes X0.here hx rfl (pc0 := 9) (pc' := 21) rfl (hb hby at_9) rfl ((if0 _ _).trans (feq hc9_1).2) (by decide) (by decide) k) ?_
    show OwnEnds p.tables e below _ (s₁.setTop (mkF m 21 #[.val (.int p0), .val (.int kk), .unset, .unset] []))
    refine own_via (fun t k => XS.iloadN X0.here hx rfl (hb hby at_21) rfl k) ?_
    show OwnEnds p.tables e below _ (s₁.setTop (mkF m 22 #[.val (.int p0), .val (.int kk), .unset, .unset] [(.int kk)]))
    refine own_via (fun t k => XS.iconst X0.here hx rfl (hb hby at_22) k) ?_
    show OwnEnds p.tables e below _ (s₁.setTop (mkF m 23 #[.val (.int p0), .val (.int kk), .unset, .unset] [(.int (1 : Int32)), (.int kk)]))
    by_cases hc23_5 : kk = (1 : Int32)
    · skip
      refine own_via (fun t k => XS.icmpNo X0.here hx rfl (hb hby at_23) rfl (teq hc23_5).2 k) ?_
      show OwnEnds p.tables e below _ (s₁.setTop (mkF m 26 #[.val (.int p0), .val (.int kk), .unset, .unset] []))
      obtain ⟨T6, X6, e6, st6⟩ := getS2 X0 hx hZ hown (host := "") (Or.inl (hw _ (List.mem_of_getElem? (i := 18) rfl))) Via.refl e0 (S_PROCESSING.ext O0.2) (g := (mkF m 26 #[.val (.int p0), .val (.int kk), .unset, .unset] [])) rfl (hb hby at_26)
      refine own_via st6 ?_
      show OwnEnds p.tables e below _ (T6.setTop (mkF m 29 #[.val (.int p0), .val (.int kk), .unset, .unset] [(.ref sPROCESSING)]))
      refine own_via (fun t k => XS.astoreN X6.here hx rfl (hb hby at_29) rfl rfl (l' := #[.val (.int p0), .val (.int kk), .val (.ref sPROCESSING), .unset]) rfl k) ?_
      show OwnEnds p.tables e below _ (T6.setTop (mkF m 30 #[.val (.int p0), .val (.int kk), .val (.ref sPROCESSING), .unset] []))
      refine own_via (fun t k => XS.iconst X6.here hx rfl (hb hby at_30) k) ?_
      show OwnEnds p.tables e below _ (T6.setTop (mkF m 31 #[.val (.int p0), .val (.int kk), .val (.ref sPROCESSING), .unset] [(.int (0 : Int32))]))
      refine own_via (fun t k => XS.istoreN X6.here hx rfl (hb hby at_31) rfl (l' := #[.val (.int p0), .val (.int kk), .val (.ref sPROCESSING), .val (.int (0 : Int32))]) rfl k) ?_
      show OwnEnds p.tables e below _ (T6.setTop (mkF m 32 #[.val (.int p0), .val (.int kk), .val (.ref sPROCESSING), .val (.int (0 : Int32))] []))
      refine own_via (fun t k => XS.goto X6.here hx rfl (pc0 := 32) (pc' := 83) rfl (hb hby at_32) (by decide) (by decide) k) ?_
      show OwnEnds p.tables e below _ (T6.setTop (mkF m 83 #[.val (.int p0), .val (.int kk), .val (.ref sPROCESSING), .val (.int (0 : Int32))] []))
      refine own_via (fun t k => XS.aloadN X6.here hx rfl (hb hby at_83) rfl rfl k) ?_
      show OwnEnds p.tables e below _ (T6.setTop (mkF m 84 #[.val (.int p0), .val (.int kk), .val (.ref sPROCESSING), .val (.int (0 : Int32))] [(.ref sPROCESSING)]))
      obtain ⟨cq7, kq7, q7a, q7b, q7c⟩ := isOf hZ e6 E_sPROCESSING
      obtain ⟨_, _, ⟨T7, L7, k7, n7⟩, -, X7, ⟨Lc7, hQ7, l7, y7, z7⟩, st7⟩ := X6.virtualBack hx (y := (⟨"com/example/bonded_depot/bondeddepot/processing/MessageState", "isFinal", "()Z"⟩ : MethodName)) (z := (⟨"com/example/bonded_depot/bondeddepot/processing/MessageState", "isFinal", "()Z"⟩ : MethodName)) hown (mvT hZ (hw _ (List.mem_of_getElem? (i := 4) rfl))) (mvT hZ (hw _ (List.mem_of_getElem? (i := 5) rfl))) (notFace_of_selects (args := #[]) (mvT hZ (hw _ (List.mem_of_getElem? (i := 7) rfl)))) (mvT hZ (hw _ (List.mem_of_getElem? (i := 7) rfl))) (mvT hZ (hw _ (List.mem_of_getElem? (i := 6) rfl))) (by decide) (backOf (W := 0) (rm1 l Z aw hw [] sPROCESSING sOK sFAILED sSKIPPED h0 n0 Z0 S_OK S_FAILED S_SKIPPED O0) hZ (hw _ (List.mem_of_getElem? (i := 8) rfl)) (hw _ (List.mem_of_getElem? (i := 2) rfl)) (by decide) (by decide)) q7a q7c (g := (mkF m 84 #[.val (.int p0), .val (.int kk), .val (.ref sPROCESSING), .val (.int (0 : Int32))] [(.ref sPROCESSING)])) rfl (by rw [hml]; rfl) (Steps.refl _) (argsL := []) (rest := []) (lenOf pd_0 rfl) rfl (by show 2 * 0 + _ ≤ _; exact Nat.le_of_eq rfl) (hb hby at_84) (fun _ _ => ⟨rfl, e6, (by decide : 0 + 0 ≤ _), (by decide : 0 + 0 ≤ _)⟩)
      dsimp only [Pt.U, Pt.locs, Pt.cells, Pt.slots] at X7 l7 y7 z7 st7 hQ7
      subst l7 y7 z7
      obtain ⟨rfl, Nq7, e7⟩ := hQ7
      have N7 := Fr.app N0 Nq7
      replace e7 : T7.heap = h0 := e7
      refine own_of st7 ?_
      show OwnEnds p.tables e below _ (T7.setTop (mkF m 87 #[.val (.int p0), .val (.int kk), .val (.ref sPROCESSING), .val (.int (0 : Int32))] [(.int (own_fin sPROCESSING sOK sFAILED sSKIPPED))]))
      refine own_via (fun t k => XS.iloadN X7.here hx rfl (hb hby at_87) rfl k) ?_
      show OwnEnds p.tables e below _ (T7.setTop (mkF m 88 #[.val (.int p0), .val (.int kk), .val (.ref sPROCESSING), .val (.int (0 : Int32))] [(.int (0 : Int32)), (.int (own_fin sPROCESSING sOK sFAILED sSKIPPED))]))
      have hc88_8 : (own_fin sPROCESSING sOK sFAILED sSKIPPED) = (0 : Int32) := own_fin0 ne_PROCESSING_OK ne_PROCESSING_FAILED ne_PROCESSING_SKIPPED
      refine own_via (fun t k => XS.icmpNo X7.here hx rfl (hb hby at_88) rfl (teq hc88_8).2 k) ?_
      show OwnEnds p.tables e below _ (T7.setTop (mkF m 91 #[.val (.int p0), .val (.int kk), .val (.ref sPROCESSING), .val (.int (0 : Int32))] []))
      refine own_via (fun t k => XS.iconst X7.here hx rfl (hb hby at_91) k) ?_
      show OwnEnds p.tables e below _ (T7.setTop (mkF m 92 #[.val (.int p0), .val (.int kk), .val (.ref sPROCESSING), .val (.int (0 : Int32))] [(.int (1 : Int32))]))
      refine own_via (fun t k => XS.goto X7.here hx rfl (pc0 := 92) (pc' := 96) rfl (hb hby at_92) (by decide) (by decide) k) ?_
      show OwnEnds p.tables e below _ (T7.setTop (mkF m 96 #[.val (.int p0), .val (.int kk), .val (.ref sPROCESSING), .val (.int (0 : Int32))] [(.int (1 : Int32))]))
      refine own_retN (t := .boolean) X7 hx Bd.returns (by simp) hlk (hb hby at_96) ?_ (by decide) (by decide)
      rw [e7]
      exact ⟨rfl, N7⟩
    · skip
      refine own_via (fun t k => XS.icmpYes X0.here hx rfl (pc0 := 23) (pc' := 35) rfl (hb hby at_23) rfl (feq hc23_5).2 (by decide) (by decide) k) ?_
      show OwnEnds p.tables e below _ (s₁.setTop (mkF m 35 #[.val (.int p0), .val (.int kk), .unset, .unset] []))
      refine own_via (fun t k => XS.iloadN X0.here hx rfl (hb hby at_35) rfl k) ?_
      show OwnEnds p.tables e below _ (s₁.setTop (mkF m 36 #[.val (.int p0), .val (.int kk), .unset, .unset] [(.int kk)]))
      refine own_via (fun t k => XS.iconst X0.here hx rfl (hb hby at_36) k) ?_
      show OwnEnds p.tables e below _ (s₁.setTop (mkF m 37 #[.val (.int p0), .val (.int kk), .unset, .unset] [(.int (2 : Int32)), (.int kk)]))
      by_cases hc37_9 : kk = (2 : Int32)
      · skip
        refine own_via (fun t k => XS.icmpNo X0.here hx rfl (hb hby at_37) rfl (teq hc37_9).2 k) ?_
        show OwnEnds p.tables e below _ (s₁.setTop (mkF m 40 #[.val (.int p0), .val (.int kk), .unset, .unset] []))
        obtain ⟨T10, X10, e10, st10⟩ := getS2 X0 hx hZ hown (host := "") (Or.inl (hw _ (List.mem_of_getElem? (i := 16) rfl))) Via.refl e0 (S_PARTLY_FAILED.ext O0.2) (g := (mkF m 40 #[.val (.int p0), .val (.int kk), .unset, .unset] [])) rfl (hb hby at_40)
        refine own_via st10 ?_
        show OwnEnds p.tables e below _ (T10.setTop (mkF m 43 #[.val (.int p0), .val (.int kk), .unset, .unset] [(.ref sPARTLY_FAILED)]))
        refine own_via (fun t k => XS.astoreN X10.here hx rfl (hb hby at_43) rfl rfl (l' := #[.val (.int p0), .val (.int kk), .val (.ref sPARTLY_FAILED), .unset]) rfl k) ?_
        show OwnEnds p.tables e below _ (T10.setTop (mkF m 44 #[.val (.int p0), .val (.int kk), .val (.ref sPARTLY_FAILED), .unset] []))
        refine own_via (fun t k => XS.iconst X10.here hx rfl (hb hby at_44) k) ?_
        show OwnEnds p.tables e below _ (T10.setTop (mkF m 45 #[.val (.int p0), .val (.int kk), .val (.ref sPARTLY_FAILED), .unset] [(.int (0 : Int32))]))
        refine own_via (fun t k => XS.istoreN X10.here hx rfl (hb hby at_45) rfl (l' := #[.val (.int p0), .val (.int kk), .val (.ref sPARTLY_FAILED), .val (.int (0 : Int32))]) rfl k) ?_
        show OwnEnds p.tables e below _ (T10.setTop (mkF m 46 #[.val (.int p0), .val (.int kk), .val (.ref sPARTLY_FAILED), .val (.int (0 : Int32))] []))
        refine own_via (fun t k => XS.goto X10.here hx rfl (pc0 := 46) (pc' := 83) rfl (hb hby at_46) (by decide) (by decide) k) ?_
        show OwnEnds p.tables e below _ (T10.setTop (mkF m 83 #[.val (.int p0), .val (.int kk), .val (.ref sPARTLY_FAILED), .val (.int (0 : Int32))] []))
        refine own_via (fun t k => XS.aloadN X10.here hx rfl (hb hby at_83) rfl rfl k) ?_
        show OwnEnds p.tables e below _ (T10.setTop (mkF m 84 #[.val (.int p0), .val (.int kk), .val (.ref sPARTLY_FAILED), .val (.int (0 : Int32))] [(.ref sPARTLY_FAILED)]))
        obtain ⟨cq11, kq11, q11a, q11b, q11c⟩ := isOf hZ e10 E_sPARTLY_FAILED
        obtain ⟨_, _, ⟨T11, L11, k11, n11⟩, -, X11, ⟨Lc11, hQ11, l11, y11, z11⟩, st11⟩ := X10.virtualBack hx (y := (⟨"com/example/bonded_depot/bondeddepot/processing/MessageState", "isFinal", "()Z"⟩ : MethodName)) (z := (⟨"com/example/bonded_depot/bondeddepot/processing/MessageState", "isFinal", "()Z"⟩ : MethodName)) hown (mvT hZ (hw _ (List.mem_of_getElem? (i := 4) rfl))) (mvT hZ (hw _ (List.mem_of_getElem? (i := 5) rfl))) (notFace_of_selects (args := #[]) (mvT hZ (hw _ (List.mem_of_getElem? (i := 7) rfl)))) (mvT hZ (hw _ (List.mem_of_getElem? (i := 7) rfl))) (mvT hZ (hw _ (List.mem_of_getElem? (i := 6) rfl))) (by decide) (backOf (W := 0) (rm1 l Z aw hw [] sPARTLY_FAILED sOK sFAILED sSKIPPED h0 n0 Z0 S_OK S_FAILED S_SKIPPED O0) hZ (hw _ (List.mem_of_getElem? (i := 8) rfl)) (hw _ (List.mem_of_getElem? (i := 2) rfl)) (by decide) (by decide)) q11a q11c (g := (mkF m 84 #[.val (.int p0), .val (.int kk), .val (.ref sPARTLY_FAILED), .val (.int (0 : Int32))] [(.ref sPARTLY_FAILED)])) rfl (by rw [hml]; rfl) (Steps.refl _) (argsL := []) (rest := []) (lenOf pd_0 rfl) rfl (by show 2 * 0 + _ ≤ _; exact Nat.le_of_eq rfl) (hb hby at_84) (fun _ _ => ⟨rfl, e10, (by decide : 0 + 0 ≤ _), (by decide : 0 + 0 ≤ _)⟩)
        dsimp only [Pt.U, Pt.locs, Pt.cells, Pt.slots] at X11 l11 y11 z11 st11 hQ11
        subst l11 y11 z11
        obtain ⟨rfl, Nq11, e11⟩ := hQ11
        have N11 := Fr.app N0 Nq11
        replace e11 : T11.heap = h0 := e11
        refine own_of st11 ?_
        show OwnEnds p.tables e below _ (T11.setTop (mkF m 87 #[.val (.int p0), .val (.int kk), .val (.ref sPARTLY_FAILED), .val (.int (0 : Int32))] [(.int (own_fin sPARTLY_FAILED sOK sFAILED sSKIPPED))]))
        refine own_via (fun t k => XS.iloadN X11.here hx rfl (hb hby at_87) rfl k) ?_
        show OwnEnds p.tables e below _ (T11.setTop (mkF m 88 #[.val (.int p0), .val (.int kk), .val (.ref sPARTLY_FAILED), .val (.int (0 : Int32))] [(.int (0 : Int32)), (.int (own_fin sPARTLY_FAILED sOK sFAILED sSKIPPED))]))
        have hc88_12 : (own_fin sPARTLY_FAILED sOK sFAILED sSKIPPED) = (0 : Int32) := own_fin0 ne_PARTLY_FAILED_OK ne_PARTLY_FAILED_FAILED ne_PARTLY_FAILED_SKIPPED
        refine own_via (fun t k => XS.icmpNo X11.here hx rfl (hb hby at_88) rfl (teq hc88_12).2 k) ?_
        show OwnEnds p.tables e below _ (T11.setTop (mkF m 91 #[.val (.int p0), .val (.int kk), .val (.ref sPARTLY_FAILED), .val (.int (0 : Int32))] []))
        refine own_via (fun t k => XS.iconst X11.here hx rfl (hb hby at_91) k) ?_
        show OwnEnds p.tables e below _ (T11.setTop (mkF m 92 #[.val (.int p0), .val (.int kk), .val (.ref sPARTLY_FAILED), .val (.int (0 : Int32))] [(.int (1 : Int32))]))
        refine own_via (fun t k => XS.goto X11.here hx rfl (pc0 := 92) (pc' := 96) rfl (hb hby at_92) (by decide) (by decide) k) ?_
        show OwnEnds p.tables e below _ (T11.setTop (mkF m 96 #[.val (.int p0), .val (.int kk), .val (.ref sPARTLY_FAILED), .val (.int (0 : Int32))] [(.int (1 : Int32))]))
        refine own_retN (t := .boolean) X11 hx Bd.returns (by simp) hlk (hb hby at_96) ?_ (by decide) (by decide)
        rw [e11]
        exact ⟨rfl, N11⟩
      · skip
        refine own_via (fun t k => XS.icmpYes X0.here hx rfl (pc0 := 37) (pc' := 49) rfl (hb hby at_37) rfl (feq hc37_9).2 (by decide) (by decide) k) ?_
        show OwnEnds p.tables e below _ (s₁.setTop (mkF m 49 #[.val (.int p0), .val (.int kk), .unset, .unset] []))
        refine own_via (fun t k => XS.iloadN X0.here hx rfl (hb hby at_49) rfl k) ?_
        show OwnEnds p.tables e below _ (s₁.setTop (mkF m 50 #[.val (.int p0), .val (.int kk), .unset, .unset] [(.int kk)]))
        refine own_via (fun t k => XS.iconst X0.here hx rfl (hb hby at_50) k) ?_
        show OwnEnds p.tables e below _ (s₁.setTop (mkF m 51 #[.val (.int p0), .val (.int kk), .unset, .unset] [(.int (3 : Int32)), (.int kk)]))
        by_cases hc51_13 : kk = (3 : Int32)
        · skip
          refine own_via (fun t k => XS.icmpNo X0.here hx rfl (hb hby at_51) rfl (teq hc51_13).2 k) ?_
          show OwnEnds p.tables e below _ (s₁.setTop (mkF m 54 #[.val (.int p0), .val (.int kk), .unset, .unset] []))
          obtain ⟨T14, X14, e14, st14⟩ := getS2 X0 hx hZ hown (host := "") (Or.inl (hw _ (List.mem_of_getElem? (i := 15) rfl))) Via.refl e0 (S_OK.ext O0.2) (g := (mkF m 54 #[.val (.int p0), .val (.int kk), .unset, .unset] [])) rfl (hb hby at_54)
          refine own_via st14 ?_
          show OwnEnds p.tables e below _ (T14.setTop (mkF m 57 #[.val (.int p0), .val (.int kk), .unset, .unset] [(.ref sOK)]))
          refine own_via (fun t k => XS.astoreN X14.here hx rfl (hb hby at_57) rfl rfl (l' := #[.val (.int p0), .val (.int kk), .val (.ref sOK), .unset]) rfl k) ?_
          show OwnEnds p.tables e below _ (T14.setTop (mkF m 58 #[.val (.int p0), .val (.int kk), .val (.ref sOK), .unset] []))
          refine own_via (fun t k => XS.iconst X14.here hx rfl (hb hby at_58) k) ?_
          show OwnEnds p.tables e below _ (T14.setTop (mkF m 59 #[.val (.int p0), .val (.int kk), .val (.ref sOK), .unset] [(.int (1 : Int32))]))
          refine own_via (fun t k => XS.istoreN X14.here hx rfl (hb hby at_59) rfl (l' := #[.val (.int p0), .val (.int kk), .val (.ref sOK), .val (.int (1 : Int32))]) rfl k) ?_
          show OwnEnds p.tables e below _ (T14.setTop (mkF m 60 #[.val (.int p0), .val (.int kk), .val (.ref sOK), .val (.int (1 : Int32))] []))
          refine own_via (fun t k => XS.goto X14.here hx rfl (pc0 := 60) (pc' := 83) rfl (hb hby at_60) (by decide) (by decide) k) ?_
          show OwnEnds p.tables e below _ (T14.setTop (mkF m 83 #[.val (.int p0), .val (.int kk), .val (.ref sOK), .val (.int (1 : Int32))] []))
          refine own_via (fun t k => XS.aloadN X14.here hx rfl (hb hby at_83) rfl rfl k) ?_
          show OwnEnds p.tables e below _ (T14.setTop (mkF m 84 #[.val (.int p0), .val (.int kk), .val (.ref sOK), .val (.int (1 : Int32))] [(.ref sOK)]))
          obtain ⟨cq15, kq15, q15a, q15b, q15c⟩ := isOf hZ e14 E_sOK
          obtain ⟨_, _, ⟨T15, L15, k15, n15⟩, -, X15, ⟨Lc15, hQ15, l15, y15, z15⟩, st15⟩ := X14.virtualBack hx (y := (⟨"com/example/bonded_depot/bondeddepot/processing/MessageState", "isFinal", "()Z"⟩ : MethodName)) (z := (⟨"com/example/bonded_depot/bondeddepot/processing/MessageState", "isFinal", "()Z"⟩ : MethodName)) hown (mvT hZ (hw _ (List.mem_of_getElem? (i := 4) rfl))) (mvT hZ (hw _ (List.mem_of_getElem? (i := 5) rfl))) (notFace_of_selects (args := #[]) (mvT hZ (hw _ (List.mem_of_getElem? (i := 7) rfl)))) (mvT hZ (hw _ (List.mem_of_getElem? (i := 7) rfl))) (mvT hZ (hw _ (List.mem_of_getElem? (i := 6) rfl))) (by decide) (backOf (W := 0) (rm1 l Z aw hw [] sOK sOK sFAILED sSKIPPED h0 n0 Z0 S_OK S_FAILED S_SKIPPED O0) hZ (hw _ (List.mem_of_getElem? (i := 8) rfl)) (hw _ (List.mem_of_getElem? (i := 2) rfl)) (by decide) (by decide)) q15a q15c (g := (mkF m 84 #[.val (.int p0), .val (.int kk), .val (.ref sOK), .val (.int (1 : Int32))] [(.ref sOK)])) rfl (by rw [hml]; rfl) (Steps.refl _) (argsL := []) (rest := []) (lenOf pd_0 rfl) rfl (by show 2 * 0 + _ ≤ _; exact Nat.le_of_eq rfl) (hb hby at_84) (fun _ _ => ⟨rfl, e14, (by decide : 0 + 0 ≤ _), (by decide : 0 + 0 ≤ _)⟩)
          dsimp only [Pt.U, Pt.locs, Pt.cells, Pt.slots] at X15 l15 y15 z15 st15 hQ15
          subst l15 y15 z15
          obtain ⟨rfl, Nq15, e15⟩ := hQ15
          have N15 := Fr.app N0 Nq15
          replace e15 : T15.heap = h0 := e15
          refine own_of st15 ?_
          show OwnEnds p.tables e below _ (T15.setTop (mkF m 87 #[.val (.int p0), .val (.int kk), .val (.ref sOK), .val (.int (1 : Int32))] [(.int (own_fin sOK sOK sFAILED sSKIPPED))]))
          refine own_via (fun t k => XS.iloadN X15.here hx rfl (hb hby at_87) rfl k) ?_
          show OwnEnds p.tables e below _ (T15.setTop (mkF m 88 #[.val (.int p0), .val (.int kk), .val (.ref sOK), .val (.int (1 : Int32))] [(.int (1 : Int32)), (.int (own_fin sOK sOK sFAILED sSKIPPED))]))
          have hc88_16 : (own_fin sOK sOK sFAILED sSKIPPED) = (1 : Int32) := own_fin1 (Or.inl rfl)
          refine own_via (fun t k => XS.icmpNo X15.here hx rfl (hb hby at_88) rfl (teq hc88_16).2 k) ?_
          show OwnEnds p.tables e below _ (T15.setTop (mkF m 91 #[.val (.int p0), .val (.int kk), .val (.ref sOK), .val (.int (1 : Int32))] []))
          refine own_via (fun t k => XS.iconst X15.here hx rfl (hb hby at_91) k) ?_
          show OwnEnds p.tables e below _ (T15.setTop (mkF m 92 #[.val (.int p0), .val (.int kk), .val (.ref sOK), .val (.int (1 : Int32))] [(.int (1 : Int32))]))
          refine own_via (fun t k => XS.goto X15.here hx rfl (pc0 := 92) (pc' := 96) rfl (hb hby at_92) (by decide) (by decide) k) ?_
          show OwnEnds p.tables e below _ (T15.setTop (mkF m 96 #[.val (.int p0), .val (.int kk), .val (.ref sOK), .val (.int (1 : Int32))] [(.int (1 : Int32))]))
          refine own_retN (t := .boolean) X15 hx Bd.returns (by simp) hlk (hb hby at_96) ?_ (by decide) (by decide)
          rw [e15]
          exact ⟨rfl, N15⟩
        · skip
          refine own_via (fun t k => XS.icmpYes X0.here hx rfl (pc0 := 51) (pc' := 63) rfl (hb hby at_51) rfl (feq hc51_13).2 (by decide) (by decide) k) ?_
          show OwnEnds p.tables e below _ (s₁.setTop (mkF m 63 #[.val (.int p0), .val (.int kk), .unset, .unset] []))
          refine own_via (fun t k => XS.iloadN X0.here hx rfl (hb hby at_63) rfl k) ?_
          show OwnEnds p.tables e below _ (s₁.setTop (mkF m 64 #[.val (.int p0), .val (.int kk), .unset, .unset] [(.int kk)]))
          refine own_via (fun t k => XS.iconst X0.here hx rfl (hb hby at_64) k) ?_
          show OwnEnds p.tables e below _ (s₁.setTop (mkF m 65 #[.val (.int p0), .val (.int kk), .unset, .unset] [(.int (4 : Int32)), (.int kk)]))
          by_cases hc65_17 : kk = (4 : Int32)
          · skip
            refine own_via (fun t k => XS.icmpNo X0.here hx rfl (hb hby at_65) rfl (teq hc65_17).2 k) ?_
            show OwnEnds p.tables e below _ (s₁.setTop (mkF m 68 #[.val (.int p0), .val (.int kk), .unset, .unset] []))
            obtain ⟨T18, X18, e18, st18⟩ := getS2 X0 hx hZ hown (host := "") (Or.inl (hw _ (List.mem_of_getElem? (i := 21) rfl))) Via.refl e0 (S_FAILED.ext O0.2) (g := (mkF m 68 #[.val (.int p0), .val (.int kk), .unset, .unset] [])) rfl (hb hby at_68)
            refine own_via st18 ?_
            show OwnEnds p.tables e below _ (T18.setTop (mkF m 71 #[.val (.int p0), .val (.int kk), .unset, .unset] [(.ref sFAILED)]))
            refine own_via (fun t k => XS.astoreN X18.here hx rfl (hb hby at_71) rfl rfl (l' := #[.val (.int p0), .val (.int kk), .val (.ref sFAILED), .unset]) rfl k) ?_
            show OwnEnds p.tables e below _ (T18.setTop (mkF m 72 #[.val (.int p0), .val (.int kk), .val (.ref sFAILED), .unset] []))
            refine own_via (fun t k => XS.iconst X18.here hx rfl (hb hby at_72) k) ?_
            show OwnEnds p.tables e below _ (T18.setTop (mkF m 73 #[.val (.int p0), .val (.int kk), .val (.ref sFAILED), .unset] [(.int (1 : Int32))]))
            refine own_via (fun t k => XS.istoreN X18.here hx rfl (hb hby at_73) rfl (l' := #[.val (.int p0), .val (.int kk), .val (.ref sFAILED), .val (.int (1 : Int32))]) rfl k) ?_
            show OwnEnds p.tables e below _ (T18.setTop (mkF m 74 #[.val (.int p0), .val (.int kk), .val (.ref sFAILED), .val (.int (1 : Int32))] []))
            refine own_via (fun t k => XS.goto X18.here hx rfl (pc0 := 74) (pc' := 83) rfl (hb hby at_74) (by decide) (by decide) k) ?_
            show OwnEnds p.tables e below _ (T18.setTop (mkF m 83 #[.val (.int p0), .val (.int kk), .val (.ref sFAILED), .val (.int (1 : Int32))] []))
            refine own_via (fun t k => XS.aloadN X18.here hx rfl (hb hby at_83) rfl rfl k) ?_
            show OwnEnds p.tables e below _ (T18.setTop (mkF m 84 #[.val (.int p0), .val (.int kk), .val (.ref sFAILED), .val (.int (1 : Int32))] [(.ref sFAILED)]))
            obtain ⟨cq19, kq19, q19a, q19b, q19c⟩ := isOf hZ e18 E_sFAILED
            obtain ⟨_, _, ⟨T19, L19, k19, n19⟩, -, X19, ⟨Lc19, hQ19, l19, y19, z19⟩, st19⟩ := X18.virtualBack hx (y := (⟨"com/example/bonded_depot/bondeddepot/processing/MessageState", "isFinal", "()Z"⟩ : MethodName)) (z := (⟨"com/example/bonded_depot/bondeddepot/processing/MessageState", "isFinal", "()Z"⟩ : MethodName)) hown (mvT hZ (hw _ (List.mem_of_getElem? (i := 4) rfl))) (mvT hZ (hw _ (List.mem_of_getElem? (i := 5) rfl))) (notFace_of_selects (args := #[]) (mvT hZ (hw _ (List.mem_of_getElem? (i := 7) rfl)))) (mvT hZ (hw _ (List.mem_of_getElem? (i := 7) rfl))) (mvT hZ (hw _ (List.mem_of_getElem? (i := 6) rfl))) (by decide) (backOf (W := 0) (rm1 l Z aw hw [] sFAILED sOK sFAILED sSKIPPED h0 n0 Z0 S_OK S_FAILED S_SKIPPED O0) hZ (hw _ (List.mem_of_getElem? (i := 8) rfl)) (hw _ (List.mem_of_getElem? (i := 2) rfl)) (by decide) (by decide)) q19a q19c (g := (mkF m 84 #[.val (.int p0), .val (.int kk), .val (.ref sFAILED), .val (.int (1 : Int32))] [(.ref sFAILED)])) rfl (by rw [hml]; rfl) (Steps.refl _) (argsL := []) (rest := []) (lenOf pd_0 rfl) rfl (by show 2 * 0 + _ ≤ _; exact Nat.le_of_eq rfl) (hb hby at_84) (fun _ _ => ⟨rfl, e18, (by decide : 0 + 0 ≤ _), (by decide : 0 + 0 ≤ _)⟩)
            dsimp only [Pt.U, Pt.locs, Pt.cells, Pt.slots] at X19 l19 y19 z19 st19 hQ19
            subst l19 y19 z19
            obtain ⟨rfl, Nq19, e19⟩ := hQ19
            have N19 := Fr.app N0 Nq19
            replace e19 : T19.heap = h0 := e19
            refine own_of st19 ?_
            show OwnEnds p.tables e below _ (T19.setTop (mkF m 87 #[.val (.int p0), .val (.int kk), .val (.ref sFAILED), .val (.int (1 : Int32))] [(.int (own_fin sFAILED sOK sFAILED sSKIPPED))]))
            refine own_via (fun t k => XS.iloadN X19.here hx rfl (hb hby at_87) rfl k) ?_
            show OwnEnds p.tables e below _ (T19.setTop (mkF m 88 #[.val (.int p0), .val (.int kk), .val (.ref sFAILED), .val (.int (1 : Int32))] [(.int (1 : Int32)), (.int (own_fin sFAILED sOK sFAILED sSKIPPED))]))
            have hc88_20 : (own_fin sFAILED sOK sFAILED sSKIPPED) = (1 : Int32) := own_fin1 (Or.inr (Or.inl rfl))
            refine own_via (fun t k => XS.icmpNo X19.here hx rfl (hb hby at_88) rfl (teq hc88_20).2 k) ?_
            show OwnEnds p.tables e below _ (T19.setTop (mkF m 91 #[.val (.int p0), .val (.int kk), .val (.ref sFAILED), .val (.int (1 : Int32))] []))
            refine own_via (fun t k => XS.iconst X19.here hx rfl (hb hby at_91) k) ?_
            show OwnEnds p.tables e below _ (T19.setTop (mkF m 92 #[.val (.int p0), .val (.int kk), .val (.ref sFAILED), .val (.int (1 : Int32))] [(.int (1 : Int32))]))
            refine own_via (fun t k => XS.goto X19.here hx rfl (pc0 := 92) (pc' := 96) rfl (hb hby at_92) (by decide) (by decide) k) ?_
            show OwnEnds p.tables e below _ (T19.setTop (mkF m 96 #[.val (.int p0), .val (.int kk), .val (.ref sFAILED), .val (.int (1 : Int32))] [(.int (1 : Int32))]))
            refine own_retN (t := .boolean) X19 hx Bd.returns (by simp) hlk (hb hby at_96) ?_ (by decide) (by decide)
            rw [e19]
            exact ⟨rfl, N19⟩
          · skip
            refine own_via (fun t k => XS.icmpYes X0.here hx rfl (pc0 := 65) (pc' := 77) rfl (hb hby at_65) rfl (feq hc65_17).2 (by decide) (by decide) k) ?_
            show OwnEnds p.tables e below _ (s₁.setTop (mkF m 77 #[.val (.int p0), .val (.int kk), .unset, .unset] []))
            obtain ⟨T21, X21, e21, st21⟩ := getS2 X0 hx hZ hown (host := "") (Or.inl (hw _ (List.mem_of_getElem? (i := 20) rfl))) Via.refl e0 (S_SKIPPED.ext O0.2) (g := (mkF m 77 #[.val (.int p0), .val (.int kk), .unset, .unset] [])) rfl (hb hby at_77)
            refine own_via st21 ?_
            show OwnEnds p.tables e below _ (T21.setTop (mkF m 80 #[.val (.int p0), .val (.int kk), .unset, .unset] [(.ref sSKIPPED)]))
            refine own_via (fun t k => XS.astoreN X21.here hx rfl (hb hby at_80) rfl rfl (l' := #[.val (.int p0), .val (.int kk), .val (.ref sSKIPPED), .unset]) rfl k) ?_
            show OwnEnds p.tables e below _ (T21.setTop (mkF m 81 #[.val (.int p0), .val (.int kk), .val (.ref sSKIPPED), .unset] []))
            refine own_via (fun t k => XS.iconst X21.here hx rfl (hb hby at_81) k) ?_
            show OwnEnds p.tables e below _ (T21.setTop (mkF m 82 #[.val (.int p0), .val (.int kk), .val (.ref sSKIPPED), .unset] [(.int (1 : Int32))]))
            refine own_via (fun t k => XS.istoreN X21.here hx rfl (hb hby at_82) rfl (l' := #[.val (.int p0), .val (.int kk), .val (.ref sSKIPPED), .val (.int (1 : Int32))]) rfl k) ?_
            show OwnEnds p.tables e below _ (T21.setTop (mkF m 83 #[.val (.int p0), .val (.int kk), .val (.ref sSKIPPED), .val (.int (1 : Int32))] []))
            refine own_via (fun t k => XS.aloadN X21.here hx rfl (hb hby at_83) rfl rfl k) ?_
            show OwnEnds p.tables e below _ (T21.setTop (mkF m 84 #[.val (.int p0), .val (.int kk), .val (.ref sSKIPPED), .val (.int (1 : Int32))] [(.ref sSKIPPED)]))
            obtain ⟨cq22, kq22, q22a, q22b, q22c⟩ := isOf hZ e21 E_sSKIPPED
            obtain ⟨_, _, ⟨T22, L22, k22, n22⟩, -, X22, ⟨Lc22, hQ22, l22, y22, z22⟩, st22⟩ := X21.virtualBack hx (y := (⟨"com/example/bonded_depot/bondeddepot/processing/MessageState", "isFinal", "()Z"⟩ : MethodName)) (z := (⟨"com/example/bonded_depot/bondeddepot/processing/MessageState", "isFinal", "()Z"⟩ : MethodName)) hown (mvT hZ (hw _ (List.mem_of_getElem? (i := 4) rfl))) (mvT hZ (hw _ (List.mem_of_getElem? (i := 5) rfl))) (notFace_of_selects (args := #[]) (mvT hZ (hw _ (List.mem_of_getElem? (i := 7) rfl)))) (mvT hZ (hw _ (List.mem_of_getElem? (i := 7) rfl))) (mvT hZ (hw _ (List.mem_of_getElem? (i := 6) rfl))) (by decide) (backOf (W := 0) (rm1 l Z aw hw [] sSKIPPED sOK sFAILED sSKIPPED h0 n0 Z0 S_OK S_FAILED S_SKIPPED O0) hZ (hw _ (List.mem_of_getElem? (i := 8) rfl)) (hw _ (List.mem_of_getElem? (i := 2) rfl)) (by decide) (by decide)) q22a q22c (g := (mkF m 84 #[.val (.int p0), .val (.int kk), .val (.ref sSKIPPED), .val (.int (1 : Int32))] [(.ref sSKIPPED)])) rfl (by rw [hml]; rfl) (Steps.refl _) (argsL := []) (rest := []) (lenOf pd_0 rfl) rfl (by show 2 * 0 + _ ≤ _; exact Nat.le_of_eq rfl) (hb hby at_84) (fun _ _ => ⟨rfl, e21, (by decide : 0 + 0 ≤ _), (by decide : 0 + 0 ≤ _)⟩)
            dsimp only [Pt.U, Pt.locs, Pt.cells, Pt.slots] at X22 l22 y22 z22 st22 hQ22
            subst l22 y22 z22
            obtain ⟨rfl, Nq22, e22⟩ := hQ22
            have N22 := Fr.app N0 Nq22
            replace e22 : T22.heap = h0 := e22
            refine own_of st22 ?_
            show OwnEnds p.tables e below _ (T22.setTop (mkF m 87 #[.val (.int p0), .val (.int kk), .val (.ref sSKIPPED), .val (.int (1 : Int32))] [(.int (own_fin sSKIPPED sOK sFAILED sSKIPPED))]))
            refine own_via (fun t k => XS.iloadN X22.here hx rfl (hb hby at_87) rfl k) ?_
            show OwnEnds p.tables e below _ (T22.setTop (mkF m 88 #[.val (.int p0), .val (.int kk), .val (.ref sSKIPPED), .val (.int (1 : Int32))] [(.int (1 : Int32)), (.int (own_fin sSKIPPED sOK sFAILED sSKIPPED))]))
            have hc88_23 : (own_fin sSKIPPED sOK sFAILED sSKIPPED) = (1 : Int32) := own_fin1 (Or.inr (Or.inr rfl))
            refine own_via (fun t k => XS.icmpNo X22.here hx rfl (hb hby at_88) rfl (teq hc88_23).2 k) ?_
            show OwnEnds p.tables e below _ (T22.setTop (mkF m 91 #[.val (.int p0), .val (.int kk), .val (.ref sSKIPPED), .val (.int (1 : Int32))] []))
            refine own_via (fun t k => XS.iconst X22.here hx rfl (hb hby at_91) k) ?_
            show OwnEnds p.tables e below _ (T22.setTop (mkF m 92 #[.val (.int p0), .val (.int kk), .val (.ref sSKIPPED), .val (.int (1 : Int32))] [(.int (1 : Int32))]))
            refine own_via (fun t k => XS.goto X22.here hx rfl (pc0 := 92) (pc' := 96) rfl (hb hby at_92) (by decide) (by decide) k) ?_
            show OwnEnds p.tables e below _ (T22.setTop (mkF m 96 #[.val (.int p0), .val (.int kk), .val (.ref sSKIPPED), .val (.int (1 : Int32))] [(.int (1 : Int32))]))
            refine own_retN (t := .boolean) X22 hx Bd.returns (by simp) hlk (hb hby at_96) ?_ (by decide) (by decide)
            rw [e22]
            exact ⟨rfl, N22⟩
set_option maxRecDepth 65536 in
set_option maxHeartbeats 40000000 in
theorem comes_1 {Post : Tables → Env → Array Value → State → Outcome → State → Prop} (hpost : ∀ tb e args s v u, (limb_1_1.after args s (.returned v) u = true ∧ limb_1_2.after args s (.returned v) u = true ∧ True) → FrameEnd s (.returned v) u (Jvm.fieldLocs frame_1_writes args s ++ Jvm.arrayLocs frame_1_arrays args s ++ Jvm.staticLocs frame_1_statics s) 0 0 → Post tb e args s (.returned v) u) :
    ArmFor flags0 classFile x code maxLocals ret World_1 tables_1 room_1 Calls_1 rest_1 Pre_1 Post := by
  intro l hfl _ _ p e ha hc hk s m args below hf hA hF happ hP
  obtain ⟨hcalls, hrest, hpre⟩ := hP
  obtain ⟨-, -, -, hnamed, -, -, -, hat⟩ := (Spec.applies_iff hf).mp happ
  obtain ⟨hg, hn⟩ := and_e (Cond.before_iff.mp (show (Jvm.Cond.and given_1 narrow_1).before args s = true from hpre))
  obtain ⟨hq0, hg0⟩ := and_e hg
  obtain ⟨w0, rfl⟩ : ∃ w0 : Value, args = #[w0] := by
    have hs : args.size = 1 := by simpa [Cond.value, given_1] using hq0
    obtain ⟨L⟩ := args
    match L, hs with
    | [w0], _ => exact ⟨w0, rfl⟩
  have hw := fun d (hd : d ∈ tables_1) => atoms_spec (ws := Jvm.Cond.code x code maxLocals ret :: tables_1) hat d (List.mem_cons_of_mem _ hd)
  have hfit : Fit s := fun {y c} hc i hi => by
    obtain ⟨ha, rfl⟩ := Array.getElem?_eq_some_iff.mp hc
    have q := List.all_eq_true.mp ((Array.all_eq_true_iff_forall_mem.mp hF) _ (Array.getElem_mem ha)) i (List.mem_range.mpr hi)
    simpa [Array.getElem?_eq_getElem hi] using q
  obtain ⟨i0, ei0⟩ := is_v hg0
  obtain rfl : w0 = (.int i0) := Option.some.inj ei0
  obtain ⟨hxIN_QUEUE, hn0⟩ := and_e hn
  obtain ⟨hxOK, hn1⟩ := and_e hn0
  obtain ⟨hoIN_QUEUE, hn2⟩ := and_e hn1
  obtain ⟨hoOK, hn3⟩ := and_e hn2
  obtain ⟨hxFAILED, hn4⟩ := and_e hn3
  obtain ⟨hoFAILED, hn5⟩ := and_e hn4
  obtain ⟨hxSKIPPED, hn6⟩ := and_e hn5
  obtain ⟨hoSKIPPED, hn7⟩ := and_e hn6
  obtain ⟨hxPARTLY_FAILED, hn8⟩ := and_e hn7
  obtain ⟨hoPARTLY_FAILED, hn9⟩ := and_e hn8
  obtain ⟨hxPROCESSING, hoPROCESSING⟩ := and_e hn9
  obtain ⟨sIN_QUEUE, evIN_QUEUE⟩ := exa_v hxIN_QUEUE
  have E_sIN_QUEUE := Exa.start evIN_QUEUE hxIN_QUEUE
  have F_IN_QUEUE := own_eqF evIN_QUEUE hoIN_QUEUE
  have S_IN_QUEUE : Sta s s.heap "com/example/bonded_depot/bondeddepot/processing/MessageState" "IN_QUEUE" "Lcom/example/bonded_depot/bondeddepot/processing/MessageState;" (.ref sIN_QUEUE) := Sta.start evIN_QUEUE (Or.inr ⟨(hw _ (List.mem_of_getElem? (i := 2) rfl)), (hw _ (List.mem_of_getElem? (i := 3) rfl))⟩)
  obtain ⟨sPROCESSING, evPROCESSING⟩ := exa_v hxPROCESSING
  have E_sPROCESSING := Exa.start evPROCESSING hxPROCESSING
  have F_PROCESSING := own_eqF evPROCESSING hoPROCESSING
  have S_PROCESSING : Sta s s.heap "com/example/bonded_depot/bondeddepot/processing/MessageState" "PROCESSING" "Lcom/example/bonded_depot/bondeddepot/processing/MessageState;" (.ref sPROCESSING) := Sta.start evPROCESSING (Or.inr ⟨(hw _ (List.mem_of_getElem? (i := 2) rfl)), (hw _ (List.mem_of_getElem? (i := 19) rfl))⟩)
  obtain ⟨sPARTLY_FAILED, evPARTLY_FAILED⟩ := exa_v hxPARTLY_FAILED
  have E_sPARTLY_FAILED := Exa.start evPARTLY_FAILED hxPARTLY_FAILED
  have F_PARTLY_FAILED := own_eqF evPARTLY_FAILED hoPARTLY_FAILED
  have S_PARTLY_FAILED : Sta s s.heap "com/example/bonded_depot/bondeddepot/processing/MessageState" "PARTLY_FAILED" "Lcom/example/bonded_depot/bondeddepot/processing/MessageState;" (.ref sPARTLY_FAILED) := Sta.start evPARTLY_FAILED (Or.inr ⟨(hw _ (List.mem_of_getElem? (i := 2) rfl)), (hw _ (List.mem_of_getElem? (i := 17) rfl))⟩)
  obtain ⟨sOK, evOK⟩ := exa_v hxOK
  have E_sOK := Exa.start evOK hxOK
  have F_OK := own_eqF evOK hoOK
  have S_OK : Sta s s.heap "com/example/bonded_depot/bondeddepot/processing/MessageState" "OK" "Lcom/example/bonded_depot/bondeddepot/processing/MessageState;" (.ref sOK) := Sta.start evOK (Or.inr ⟨(hw _ (List.mem_of_getElem? (i := 2) rfl)), (hw _ (List.mem_of_getElem? (i := 10) rfl))⟩)
  obtain ⟨sFAILED, evFAILED⟩ := exa_v hxFAILED
  have E_sFAILED := Exa.start evFAILED hxFAILED
  have F_FAILED := own_eqF evFAILED hoFAILED
  have S_FAILED : Sta s s.heap "com/example/bonded_depot/bondeddepot/processing/MessageState" "FAILED" "Lcom/example/bonded_depot/bondeddepot/processing/MessageState;" (.ref sFAILED) := Sta.start evFAILED (Or.inr ⟨(hw _ (List.mem_of_getElem? (i := 2) rfl)), (hw _ (List.mem_of_getElem? (i := 12) rfl))⟩)
  obtain ⟨sSKIPPED, evSKIPPED⟩ := exa_v hxSKIPPED
  have E_sSKIPPED := Exa.start evSKIPPED hxSKIPPED
  have F_SKIPPED := own_eqF evSKIPPED hoSKIPPED
  have S_SKIPPED : Sta s s.heap "com/example/bonded_depot/bondeddepot/processing/MessageState" "SKIPPED" "Lcom/example/bonded_depot/bondeddepot/processing/MessageState;" (.ref sSKIPPED) := Sta.start evSKIPPED (Or.inr ⟨(hw _ (List.mem_of_getElem? (i := 2) rfl)), (hw _ (List.mem_of_getElem? (i := 14) rfl))⟩)
  have ne_IN_QUEUE_OK : sIN_QUEUE ≠ sOK := Fld.ne F_IN_QUEUE F_OK (by decide)
  have ne_IN_QUEUE_FAILED : sIN_QUEUE ≠ sFAILED := Fld.ne F_IN_QUEUE F_FAILED (by decide)
  have ne_IN_QUEUE_SKIPPED : sIN_QUEUE ≠ sSKIPPED := Fld.ne F_IN_QUEUE F_SKIPPED (by decide)
  have ne_PROCESSING_OK : sPROCESSING ≠ sOK := Fld.ne F_PROCESSING F_OK (by decide)
  have ne_PROCESSING_FAILED : sPROCESSING ≠ sFAILED := Fld.ne F_PROCESSING F_FAILED (by decide)
  have ne_PROCESSING_SKIPPED : sPROCESSING ≠ sSKIPPED := Fld.ne F_PROCESSING F_SKIPPED (by decide)
  have ne_PARTLY_FAILED_OK : sPARTLY_FAILED ≠ sOK := Fld.ne F_PARTLY_FAILED F_OK (by decide)
  have ne_PARTLY_FAILED_FAILED : sPARTLY_FAILED ≠ sFAILED := Fld.ne F_PARTLY_FAILED F_FAILED (by decide)
  have ne_PARTLY_FAILED_SKIPPED : sPARTLY_FAILED ≠ sSKIPPED := Fld.ne F_PARTLY_FAILED F_SKIPPED (by decide)
  obtain ⟨n, o, h1, h2, h3, _, L, rfl, ⟨rfl, N⟩, hq⟩ := rm0 l s _ hw tables_1 i0 sIN_QUEUE sPROCESSING sPARTLY_FAILED sOK sFAILED sSKIPPED s.heap s.heap.size (Nat.le_refl _) S_IN_QUEUE S_PROCESSING S_PARTLY_FAILED S_OK S_FAILED S_SKIPPED E_sIN_QUEUE E_sPROCESSING E_sPARTLY_FAILED E_sOK E_sFAILED E_sSKIPPED (Old.start s) ne_IN_QUEUE_OK ne_IN_QUEUE_FAILED ne_IN_QUEUE_SKIPPED ne_PROCESSING_OK ne_PROCESSING_FAILED ne_PROCESSING_SKIPPED ne_PARTLY_FAILED_OK ne_PARTLY_FAILED_FAILED ne_PARTLY_FAILED_SKIPPED p e ha hc hk s m _ below hf ((Spec.applies_iff_loose hf).mp happ).1 ⟨rfl, State.Warmed39.refl s, rfl⟩ trivial
  refine ⟨n, _, h1, h2, h3, hpost _ _ _ _ _ _ ⟨Cond.after_iff.mpr rfl, Cond.after_iff.mpr (eq_i res_at (Term.int_eval (1)) rfl), trivial⟩ ⟨hq.1, hq.2.1, (hq.2.2.sift fun y hy => Or.inr (N y hy)).mono (by decide) (by decide)⟩⟩
theorem main_1_1 : Claimed_1_1 := comes_1 fun _ _ _ _ _ _ h hF => ⟨h.1, hF⟩
theorem main_1_2 : Claimed_1_2 := comes_1 fun _ _ _ _ _ _ h hF => ⟨h.2.1, hF⟩
end Jvm.Pilot.@@N@@
namespace Jvm.Pilot.@@N@@
open Jvm Jvm.ClassFile Sem Op Lib Jvm.Free Jvm.Stand Jvm.Pilot.@@N@@.Jvm.D
/-! MADE BY PROGRAM (witnessworld.py) out of the Statement's table words and the real class files: 12 classes; the members and pool entries that the words name. The judged class is class 1, her method 1. -/
namespace start1
open Jvm.ClassFile
def u (s : String) : CpInfo := .utf8 (stringToUtf16 s)
/-- a pool by its gaps: so many unusable entries, then the entry; so many at the end -/
def gap : Nat → List CpInfo → List CpInfo
  | 0, r => r
  | n + 1, r => .unusable :: gap n r
def poolList (es : List (Nat × CpInfo)) (last : Nat) : List CpInfo := es.foldr (fun e r => gap e.1 (e.2 :: r)) (gap last [])
def pool (es : List (Nat × CpInfo)) (last : Nat) : Array CpInfo := ⟨poolList es last⟩
def fileOf (pool : Array CpInfo) (this : Nat) (attrs : Array Attribute := #[]) (ms : Array MethodInfo := #[]) (fl : Nat := 33) (sup : Nat := 0) (ifs : Array Nat := #[]) (fds : Array FieldInfo := #[]) : ClassFile where
  minorVersion := 0
  majorVersion := 65
  constantPool := pool
  accessFlags := fl
  thisClass := this
  superClass := sup
  interfaces := ifs
  fields := fds
  methods := ms
  attributes := attrs
def plain (name : String) (sup : Option ClassId) : Class where
  name := name
  kind := .ordinary
  loader := none
  accessFlags := 33
  super := sup
  interfaces := #[]
  cf := none
  fields := #[]
  methods := #[]
  instanceTypes := #[]
  staticTypes := #[]
  resolved := #[]
  callSites := []
  init := .initialized
  statics := none
  mirror := none

def pool0 : Array CpInfo := pool [(5, u "<init>"), (0, u "()V"), (1, .class_ 10), (1, u "java/lang/Object")] 113

def k0m0 : Method := { name := "<init>", desc := "()V", sig := { parameters := [], returnType := none }, accessFlags := 1, code := none }
/-- java/lang/Object -/
def k0 : Class := { plain "java/lang/Object" none with
  accessFlags := 33
  interfaces := #[]
  cf := some (fileOf pool0 8 #[] #[{ accessFlags := 1, nameIndex := 5, descriptorIndex := 6, attributes := #[] }] 33 0 #[] #[])
  fields := #[]
  methods := #[k0m0]
  instanceTypes := #[]
  staticTypes := #[]
  resolved := Array.replicate 124 none
  statics := none }

def pool1 : Array CpInfo := pool [(2, .class_ 4), (1, u "java/lang/Object"), (0, u "<init>"), (0, u "()V"), (0, .integer 2147483647), (0, .fieldref 9 10), (0, .class_ 11), (0, .nameAndType 12 13), (0, u "com/example/bonded_depot/bondeddepot/processing/MessageState"), (0, u "IN_QUEUE"), (0, u "Lcom/example/bonded_depot/bondeddepot/processing/MessageState;"), (0, .fieldref 9 15), (0, .nameAndType 16 13), (0, u "PROCESSING"), (0, .fieldref 9 18), (0, .nameAndType 19 13), (0, u "PARTLY_FAILED"), (0, .fieldref 9 21), (0, .nameAndType 22 13), (0, u "OK"), (0, .fieldref 9 24), (0, .nameAndType 25 13), (0, u "FAILED"), (0, .fieldref 9 27), (0, .nameAndType 28 13), (0, u "SKIPPED"), (0, .methodref 9 30), (0, .nameAndType 31 32), (0, u "isFinal"), (0, u "()Z"), (0, .class_ 34), (0, u "com/example/bonded_depot/bondeddepot/processing/MessageStateIsFinalPinLaw"), (2, u "law"), (0, u "(I)Z")] 3

def k1m0 : Method := { name := "<init>", desc := "()V", sig := { parameters := [], returnType := none }, accessFlags := 2, code := none }
def k1c1 : Code := { maxStack := 2, maxLocals := 4, code := code, exceptionTable := #[], attributes := #[] }
def k1m1 : Method := { name := "law", desc := "(I)Z", sig := { parameters := [.int], returnType := some .boolean }, accessFlags := 9, code := some k1c1 }
/-- com/example/bonded_depot/bondeddepot/processing/MessageStateIsFinalPinLaw -/
def k1 : Class := { plain "com/example/bonded_depot/bondeddepot/processing/MessageStateIsFinalPinLaw" (some 0) with
  accessFlags := 49
  interfaces := #[]
  cf := some (fileOf pool1 33 #[] #[{ accessFlags := 2, nameIndex := 5, descriptorIndex := 6, attributes := #[] }, { accessFlags := 9, nameIndex := 37, descriptorIndex := 38, attributes := #[] }] 49 2 #[] #[])
  fields := #[]
  methods := #[k1m0, k1m1]
  instanceTypes := #[]
  staticTypes := #[]
  resolved := Array.replicate 42 none
  statics := none }

def pool2 : Array CpInfo := pool [(1, .class_ 2), (0, u "java/lang/constant/Constable"), (0, .class_ 4), (0, u "java/lang/Object")] 6

/-- java/lang/constant/Constable -/
def k2 : Class := { plain "java/lang/constant/Constable" (some 0) with
  accessFlags := 1537
  interfaces := #[]
  cf := some (fileOf pool2 1 #[] #[] 1537 3 #[] #[])
  fields := #[]
  methods := #[]
  instanceTypes := #[]
  staticTypes := #[]
  resolved := Array.replicate 11 none
  statics := none }

def pool3 : Array CpInfo := pool [(1, .class_ 2), (0, u "java/lang/Comparable"), (0, .class_ 4), (0, u "java/lang/Object")] 7

/-- java/lang/Comparable -/
def k3 : Class := { plain "java/lang/Comparable" (some 0) with
  accessFlags := 1537
  interfaces := #[]
  cf := some (fileOf pool3 1 #[] #[] 1537 3 #[] #[])
  fields := #[]
  methods := #[]
  instanceTypes := #[]
  staticTypes := #[]
  resolved := Array.replicate 12 none
  statics := none }

def pool4 : Array CpInfo := pool [(1, .class_ 2), (0, u "java/io/Serializable"), (0, .class_ 4), (0, u "java/lang/Object")] 2

/-- java/io/Serializable -/
def k4 : Class := { plain "java/io/Serializable" (some 0) with
  accessFlags := 1537
  interfaces := #[]
  cf := some (fileOf pool4 1 #[] #[] 1537 3 #[] #[])
  fields := #[]
  methods := #[]
  instanceTypes := #[]
  staticTypes := #[]
  resolved := Array.replicate 7 none
  statics := none }

def pool5 : Array CpInfo := pool [(2, .class_ 4), (1, u "java/lang/Enum"), (0, u "name"), (0, u "Ljava/lang/String;"), (2, u "ordinal"), (0, u "I"), (1, .class_ 14), (1, u "java/lang/Object"), (4, u "hash"), (86, .class_ 108), (1, u "java/lang/Enum$EnumDesc"), (2, .class_ 112), (0, u "java/lang/constant/Constable"), (0, .class_ 114), (0, u "java/lang/Comparable"), (0, .class_ 116), (0, u "java/io/Serializable")] 87

/-- java/lang/Enum -/
def k5 : Class := { plain "java/lang/Enum" (some 0) with
  accessFlags := 1057
  interfaces := #[2, 3, 4]
  cf := some (fileOf pool5 2 #[.nestMembers #[106]] #[] 1057 12 #[111, 113, 115] #[{ accessFlags := 18, nameIndex := 5, descriptorIndex := 6, attributes := #[] }, { accessFlags := 18, nameIndex := 9, descriptorIndex := 10, attributes := #[] }, { accessFlags := 2, nameIndex := 19, descriptorIndex := 10, attributes := #[] }])
  fields := #[{ name := "name", type := (.object "java/lang/String"), accessFlags := 18, slot := 0, constantValue := 0 }, { name := "ordinal", type := .int, accessFlags := 18, slot := 1, constantValue := 0 }, { name := "hash", type := .int, accessFlags := 2, slot := 2, constantValue := 0 }]
  methods := #[]
  instanceTypes := #[(.object "java/lang/String"), .int, .int]
  staticTypes := #[]
  resolved := Array.replicate 204 none
  statics := none }

def pool6 : Array CpInfo := pool [(1, .class_ 2), (0, u "com/example/bonded_depot/bondeddepot/processing/MessageState"), (2, u "IN_QUEUE"), (0, u "Lcom/example/bonded_depot/bondeddepot/processing/MessageState;"), (2, u "PROCESSING"), (2, u "PARTLY_FAILED"), (0, .fieldref 1 14), (0, .nameAndType 15 6), (0, u "OK"), (0, .fieldref 1 17), (0, .nameAndType 18 6), (0, u "FAILED"), (0, .fieldref 1 20), (0, .nameAndType 21 6), (0, u "SKIPPED"), (2, u "$VALUES"), (0, u "[Lcom/example/bonded_depot/bondeddepot/processing/MessageState;"), (6, .class_ 34), (1, u "java/lang/Enum"), (24, u "isFinal"), (0, u "()Z")] 5

def k6c0 : Code := { maxStack := 2, maxLocals := 1, code := prog_53_method_4_code, exceptionTable := #[], attributes := #[] }
def k6m0 : Method := { name := "isFinal", desc := "()Z", sig := { parameters := [], returnType := some .boolean }, accessFlags := 1, code := some k6c0 }
/-- com/example/bonded_depot/bondeddepot/processing/MessageState -/
def k6 : Class := { plain "com/example/bonded_depot/bondeddepot/processing/MessageState" (some 5) with
  accessFlags := 16433
  interfaces := #[]
  cf := some (fileOf pool6 1 #[] #[{ accessFlags := 1, nameIndex := 59, descriptorIndex := 60, attributes := #[] }] 16433 32 #[] #[{ accessFlags := 16409, nameIndex := 5, descriptorIndex := 6, attributes := #[] }, { accessFlags := 16409, nameIndex := 9, descriptorIndex := 6, attributes := #[] }, { accessFlags := 16409, nameIndex := 12, descriptorIndex := 6, attributes := #[] }, { accessFlags := 16409, nameIndex := 15, descriptorIndex := 6, attributes := #[] }, { accessFlags := 16409, nameIndex := 18, descriptorIndex := 6, attributes := #[] }, { accessFlags := 16409, nameIndex := 21, descriptorIndex := 6, attributes := #[] }, { accessFlags := 4122, nameIndex := 24, descriptorIndex := 25, attributes := #[] }])
  fields := #[{ name := "IN_QUEUE", type := (.object "com/example/bonded_depot/bondeddepot/processing/MessageState"), accessFlags := 16409, slot := 0, constantValue := 0 }, { name := "PROCESSING", type := (.object "com/example/bonded_depot/bondeddepot/processing/MessageState"), accessFlags := 16409, slot := 1, constantValue := 0 }, { name := "PARTLY_FAILED", type := (.object "com/example/bonded_depot/bondeddepot/processing/MessageState"), accessFlags := 16409, slot := 2, constantValue := 0 }, { name := "OK", type := (.object "com/example/bonded_depot/bondeddepot/processing/MessageState"), accessFlags := 16409, slot := 3, constantValue := 0 }, { name := "FAILED", type := (.object "com/example/bonded_depot/bondeddepot/processing/MessageState"), accessFlags := 16409, slot := 4, constantValue := 0 }, { name := "SKIPPED", type := (.object "com/example/bonded_depot/bondeddepot/processing/MessageState"), accessFlags := 16409, slot := 5, constantValue := 0 }, { name := "$VALUES", type := (.array (.object "com/example/bonded_depot/bondeddepot/processing/MessageState")), accessFlags := 4122, slot := 6, constantValue := 0 }]
  methods := #[k6m0]
  instanceTypes := #[(.object "java/lang/String"), .int, .int]
  staticTypes := #[(.object "com/example/bonded_depot/bondeddepot/processing/MessageState"), (.object "com/example/bonded_depot/bondeddepot/processing/MessageState"), (.object "com/example/bonded_depot/bondeddepot/processing/MessageState"), (.object "com/example/bonded_depot/bondeddepot/processing/MessageState"), (.object "com/example/bonded_depot/bondeddepot/processing/MessageState"), (.object "com/example/bonded_depot/bondeddepot/processing/MessageState"), (.array (.object "com/example/bonded_depot/bondeddepot/processing/MessageState"))]
  resolved := Array.replicate 66 none
  statics := some 0 }

def pool7 : Array CpInfo := pool [(1, u "java/lang/Cloneable"), (0, .class_ 1), (0, u "java/lang/Object"), (0, .class_ 3)] 3

/-- java/lang/Cloneable -/
def k7 : Class := { plain "java/lang/Cloneable" (some 0) with
  accessFlags := 1537
  interfaces := #[]
  cf := some (fileOf pool7 2 #[] #[] 1537 4 #[] #[])
  fields := #[]
  methods := #[]
  instanceTypes := #[]
  staticTypes := #[]
  resolved := Array.replicate 8 none
  statics := none }

/-- the primitive byte -/
def k8 : Class := { plain "byte" none with kind := .primitive 'B', accessFlags := 0x411 }
/-- [B -/
def k9 : Class := { plain "[B" (some 0) with kind := .array 8 .byte, interfaces := #[7, 4], accessFlags := 1041 }

/-- the primitive int -/
def k10 : Class := { plain "int" none with kind := .primitive 'I', accessFlags := 0x411 }
/-- [I -/
def k11 : Class := { plain "[I" (some 0) with kind := .array 10 .int, interfaces := #[7, 4], accessFlags := 1041 }

def heap : Heap := #[{ cls := 6, slots := #[.ref 1, .ref 2, .ref 3, .ref 4, .ref 5, .ref 6, .null], vm := .statics 6 },
  { cls := 6, slots := #[.null, .int 0, .int 0], vm := .none },
  { cls := 6, slots := #[.null, .int 1, .int 0], vm := .none },
  { cls := 6, slots := #[.null, .int 2, .int 0], vm := .none },
  { cls := 6, slots := #[.null, .int 3, .int 0], vm := .none },
  { cls := 6, slots := #[.null, .int 4, .int 0], vm := .none },
  { cls := 6, slots := #[.null, .int 5, .int 0], vm := .none }]
def classes : Array Class := #[k0, k1, k2, k3, k4, k5, k6, k7, k8, k9, k10, k11]
def interned : List (Array UInt16 × Addr) := []
def slotsUsed : Nat := 25
def theMethod : MethodId := ⟨1, 1⟩
def args0 : Array Value := #[.int 5]
def aboutOver (below : List Frame) : State where
  vm := { classes := classes, interned := interned.toArray }
  heap := heap
  slotsUsed := slotsUsed
  threads := #[{ frames := .invoking theMethod args0 :: below }]
def below0 : List Frame := [.native { method := ⟨0, 0⟩, args := #[] }]
def about1 : State := aboutOver below0
def p0 : Program := .bare "" "" ""
def e0 : Env := launch0.env 0 0 0
theorem w_frames : about1.frames = Frame.invoking theMethod args0 :: below0 := rfl
set_option maxRecDepth 65536 in
theorem w_args : argsFit about1.vm theMethod args0 = true := by decide +kernel
set_option maxRecDepth 65536 in
theorem w_heap : heapFits about1 = true := by decide +kernel
set_option maxRecDepth 65536 in
theorem w_runnable : about1.curStatus? = some .runnable := by decide +kernel
set_option maxRecDepth 65536 in
theorem w_alone : about1.alone = true := by decide +kernel
set_option maxRecDepth 65536 in
theorem w_named : about1.methodNamed? x = some theMethod := by decide +kernel
set_option maxRecDepth 65536 in
theorem w_hears : about1.hears theMethod below0 = true := by decide +kernel
set_option maxRecDepth 65536 in
theorem w_ripe : about1.ripe theMethod args0 below0 = true := by decide +kernel
theorem w_running : about1.status = .running := rfl
set_option maxRecDepth 65536 in
theorem w_room : about1.hasRoom e0.platform room_1 = true :=
  launch0.hasRoom_least _ room_1 (by decide +kernel) (by decide +kernel) (by decide +kernel) (by decide +kernel) (by decide +kernel) (by decide +kernel)
theorem allAtoms_all (ts : List Jvm.Cond) (a : Array Jvm.Value) (st : Jvm.State) : (allAtoms ts).before a st = ts.all (fun c => c.before a st) := by
  induction ts with
  | nil => rfl
  | cons c t ih =>
    show (Jvm.Cond.and c (allAtoms t)).before a st = _
    rw [Jvm.Cond.before_and, ih, List.all_cons]
def words1 : List Jvm.Cond := Jvm.Cond.code x code maxLocals ret :: tables_1
/-- a 'code' word, met by the world's own term for the bytes: nothing is compared byte by byte -/
theorem code_word {y : MethodName} {bytes : ByteArray} {mx : Nat} {rt : Option FieldType} {a : Array Value} {s : State} {m : MethodId} {meth : Method} {c : Code} (h1 : s.methodNamed? y = some m) (h2 : s.vm.method? m = some meth) (h3 : meth.code = some c) (h4 : c.code = bytes)
    (h5 : (c.maxLocals == mx && c.exceptionTable.isEmpty && decide (c.maxStack ≤ mostOperands) && decide (meth.sig.returnType = rt) && !meth.locks && decide (parseMethodDescriptor y.desc = some meth.sig)) = true) : (Jvm.Cond.code y bytes mx rt).before a s = true := by
  simp only [Bool.and_eq_true, beq_iff_eq, Bool.not_eq_true', decide_eq_true_eq] at h5
  obtain ⟨⟨⟨⟨⟨g1, g2⟩, g3⟩, g4⟩, g5⟩, g6⟩ := h5
  simp [Cond.before, Cond.holds, Cond.value, h1, h2, h3, h4, g1, g2, g3, g4, g5, g6]
def isCode : Jvm.Cond → Bool
  | .code _ _ _ _ => true
  | _ => false
theorem all_split {L : List Jvm.Cond} {P : Jvm.Cond → Bool} (h1 : L.all (fun c => isCode c || P c) = true) (h2 : ∀ c ∈ L.filter isCode, P c = true) : L.all P = true := by
  refine List.all_eq_true.mpr fun c hc => ?_
  have h := List.all_eq_true.mp h1 c hc
  rcases Bool.eq_false_or_eq_true (isCode c) with hi | hi
  · exact h2 c (List.mem_filter.mpr ⟨hc, hi⟩)
  · simpa [hi] using h
set_option maxRecDepth 65536 in
theorem w_c0 : (Jvm.Cond.code x code maxLocals ret).before args0 about1 = true := code_word (m := ⟨1, 1⟩) (meth := k1m1) (c := k1c1) (by decide +kernel) rfl rfl rfl (by decide +kernel)
set_option maxRecDepth 65536 in
theorem w_c1 : (Jvm.Cond.code ({ cls := "com/example/bonded_depot/bondeddepot/processing/MessageState", name := "isFinal", desc := "()Z" } : Jvm.MethodName) prog_53_method_4_code (1 : Nat) (Option.some Jvm.ClassFile.FieldType.boolean)).before args0 about1 = true := code_word (m := ⟨6, 0⟩) (meth := k6m0) (c := k6c0) (by decide +kernel) rfl rfl rfl (by decide +kernel)
def codes1 : List Jvm.Cond := [Jvm.Cond.code x code maxLocals ret, Jvm.Cond.code ({ cls := "com/example/bonded_depot/bondeddepot/processing/MessageState", name := "isFinal", desc := "()Z" } : Jvm.MethodName) prog_53_method_4_code (1 : Nat) (Option.some Jvm.ClassFile.FieldType.boolean)]
set_option maxRecDepth 65536 in
theorem codes_eq : words1.filter isCode = codes1 := rfl
theorem w_codes : ∀ c ∈ words1.filter isCode, c.before args0 about1 = true := by
  rw [codes_eq]
  intro c hc
  simp only [codes1, List.mem_cons, List.not_mem_nil, or_false] at hc
  rcases hc with rfl | rfl
  · exact w_c0
  · exact w_c1
set_option maxRecDepth 65536 in
theorem w_t1 : words1.all (fun c => isCode c || c.before args0 about1) = true := by decide +kernel
theorem w_tables : (allAtoms (Jvm.Cond.code x code maxLocals ret :: tables_1)).before args0 about1 = true := by
  rw [allAtoms_all]
  show words1.all (fun c => c.before args0 about1) = true
  refine all_split ?_ w_codes
  rw [w_t1]
set_option maxRecDepth 65536 in
theorem w_case : (Jvm.Cond.and given_1 narrow_1).before args0 about1 = true := by decide +kernel
theorem w_applies : (headSpec (Jvm.Cond.code x code maxLocals ret :: tables_1) room_1).applies x e0.platform about1 = true :=
  (Spec.applies_iff w_frames).mpr ⟨w_running, w_runnable, w_alone, w_named, w_hears, w_ripe, w_room, w_tables⟩
theorem atStart : AtStart classFile x code maxLocals ret World_1 tables_1 room_1 Calls_1 rest_1 Pre_1 launch0 p0 e0 about1 theMethod args0 below0 :=
  ⟨lists_1, trivial, launch0.admits_env _ _ _, launch0.least_env, fairChoices_fair.cas, fairChoices_fair.clock, w_frames, w_args, w_heap, w_applies, trivial, trivial, w_case⟩
end start1
theorem witness_1 : WitnessClaimed_1 := ⟨start1.p0, start1.e0, start1.about1, start1.theMethod, start1.args0, start1.below0, start1.atStart⟩
end Jvm.Pilot.@@N@@
