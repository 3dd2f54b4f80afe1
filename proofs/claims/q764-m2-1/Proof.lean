import JvmDerived
import JvmDerived.Pilot.@@N@@Statement
import JvmDerived.Pilot.@@N@@Code
set_option linter.unusedVariables false
set_option linter.unusedSimpArgs false
namespace Jvm.Pilot.@@N@@
open Jvm Jvm.ClassFile Sem Op Lib Jvm.Free Jvm.Stand Jvm.LawKit Jvm.RoadKit Bundle Jvm.Pilot.@@N@@.Jvm.D
section Own
variable {p : Program} {l : Launch} {e : Env} {R : Room} {s : State} {m : MethodId} {args : Array Value} {below : List Frame} {meth : Method} {c : Code} {T : State} {locs : List Loc} {cells slots : Nat}
/-- from U the run comes to an end of which Q holds -/
def OwnEnds (tb : Tables) (e : Env) (below : List Frame) (Q : Outcome → State → Prop) (U : State) : Prop :=
  ∃ s₂ o, Steps tb e below U s₂ ∧ s₂.status = .running ∧ Ended s₂ below o ∧ Q o s₂
abbrev OwnQ (s : State) (K N : Nat) (Q : Option Value → Heap → List Loc → Prop) : Outcome → State → Prop :=
  fun o U => ∃ v L, o = .returned v ∧ Q v U.heap L ∧ FrameEnd s o U L K N
theorem own_via {tb : Tables} {Q : Outcome → State → Prop} {U U' : State} (h : ∀ t, Steps tb e below U' t → Steps tb e below U t) (k : OwnEnds tb e below Q U') : OwnEnds tb e below Q U := by
  obtain ⟨s₂, o, h1, h2⟩ := k
  exact ⟨s₂, o, h _ h1, h2⟩
theorem own_of {tb : Tables} {Q : Outcome → State → Prop} {U U' : State} (h : Steps tb e below U U') (k : OwnEnds tb e below Q U') : OwnEnds tb e below Q U :=
  own_via (fun _ q => h.trans q) k
theorem own_wide {K N : Nat} (X : Stand p l e R s m args below meth c T locs cells slots) (h1 : cells ≤ K) (h2 : slots ≤ N) : Stand p l e R s m args below meth c T locs K N :=
  { X with same := X.same.mono h1 h2 }
theorem own_ret (X : Stand p l e R s m args below meth c T locs cells slots) {Q : Option Value → Heap → List Loc → Prop} {K N : Nat} {v : Option Value} (hv : meth.sig.returnType = none → v = none) (hlk : meth.locks = false) {f : JFrame}
    (st : ∀ fs, (∀ (f : JFrame) (acts : List Action), f.method = m → f.locked = none → f.entered = [] → (doReturn e (T.setTop f) acts v).1 = T.setFrames fs) → Steps p.tables e below (T.setTop f) (T.setFrames fs))
    (hQ : Q v T.heap locs) (hK : cells ≤ K) (hN : slots ≤ N) : OwnEnds p.tables e below (OwnQ s K N Q) (T.setTop f) := by
  obtain ⟨fs, hr, hrun, hended, hW, hsame⟩ := X.leave (v := v) hv hlk
  exact ⟨_, _, st fs hr, hrun, hended, _, _, rfl, hQ, ⟨_, rfl⟩, hW, hsame.mono hK hN⟩
theorem own_retI (X : Stand p l e R s m args below meth c T locs cells slots) (hx : p.tables.exec = Jvm.exec) {Q : Option Value → Heap → List Loc → Prop} {K N pc : Nat} {Ls : Array Slot} {z : Int32} {rest : List Value} (hret : meth.sig.returnType = some .int) (hlk : meth.locks = false) (hd : decode c.code pc = .ok (.ireturn, 1))
    (hQ : Q (some (.int z)) T.heap locs) (hK : cells ≤ K) (hN : slots ≤ N) : OwnEnds p.tables e below (OwnQ s K N Q) (T.setTop (mkF m pc Ls (.int z :: rest))) :=
  own_ret X (fun h => by rw [hret] at h; cases h) hlk (fun fs hl => retOut X hx hret rfl (Or.inl ⟨rfl, Or.inl rfl, z, rfl⟩) hd hl) hQ hK hN
theorem own_retN (X : Stand p l e R s m args below meth c T locs cells slots) (hx : p.tables.exec = Jvm.exec) {Q : Option Value → Heap → List Loc → Prop} {K N pc : Nat} {Ls : Array Slot} {z : Int32} {t : FieldType} {rest : List Value} (hret : meth.sig.returnType = some t) (ht : t = .boolean ∨ t = .byte ∨ t = .char ∨ t = .short) (hlk : meth.locks = false) (hd : decode c.code pc = .ok (.ireturn, 1))
    (hQ : Q (some (.int (nar t z))) T.heap locs) (hK : cells ≤ K) (hN : slots ≤ N) : OwnEnds p.tables e below (OwnQ s K N Q) (T.setTop (mkF m pc Ls (.int z :: rest))) :=
  own_ret X (fun h => by rw [hret] at h; cases h) hlk (fun fs hl => retN X hx hret ht hd hl) hQ hK hN
theorem own_retJ (X : Stand p l e R s m args below meth c T locs cells slots) (hx : p.tables.exec = Jvm.exec) {Q : Option Value → Heap → List Loc → Prop} {K N pc : Nat} {Ls : Array Slot} {z : Int64} {rest : List Value} (hret : meth.sig.returnType = some .long) (hlk : meth.locks = false) (hd : decode c.code pc = .ok (.lreturn, 1))
    (hQ : Q (some (.long z)) T.heap locs) (hK : cells ≤ K) (hN : slots ≤ N) : OwnEnds p.tables e below (OwnQ s K N Q) (T.setTop (mkF m pc Ls (.long z :: rest))) :=
  own_ret X (fun h => by rw [hret] at h; cases h) hlk (fun fs hl => retOut X hx hret rfl (Or.inr (Or.inl ⟨rfl, rfl, z, rfl⟩)) hd hl) hQ hK hN
theorem own_retA (X : Stand p l e R s m args below meth c T locs cells slots) (hx : p.tables.exec = Jvm.exec) {Q : Option Value → Heap → List Loc → Prop} {K N pc : Nat} {Ls : Array Slot} {w : Value} {t : FieldType} {rest : List Value} (hret : meth.sig.returnType = some t) (ht : t.isReference = true) (hw : w.isRef = true) (hlk : meth.locks = false) (hd : decode c.code pc = .ok (.areturn, 1))
    (hQ : Q (some w) T.heap locs) (hK : cells ≤ K) (hN : slots ≤ N) : OwnEnds p.tables e below (OwnQ s K N Q) (T.setTop (mkF m pc Ls (w :: rest))) :=
  own_ret X (fun h => by rw [hret] at h; cases h) hlk (fun fs hl => retOut X hx hret (by cases t <;> first | (cases ht; done) | (cases w <;> first | rfl | (cases hw; done))) (Or.inr (Or.inr (Or.inr (Or.inr ⟨rfl, ht, hw⟩)))) hd hl) hQ hK hN
theorem own_retV (X : Stand p l e R s m args below meth c T locs cells slots) (hx : p.tables.exec = Jvm.exec) {Q : Option Value → Heap → List Loc → Prop} {K N pc : Nat} {Ls : Array Slot} (hret : meth.sig.returnType = none) (hlk : meth.locks = false) (hd : decode c.code pc = .ok (.return_, 1))
    (hQ : Q none T.heap locs) (hK : cells ≤ K) (hN : slots ≤ N) : OwnEnds p.tables e below (OwnQ s K N Q) (T.setTop (mkF m pc Ls [])) :=
  own_ret X (fun _ => rfl) hlk (fun fs hl => X.returnOut hx hret hd hl) hQ hK hN
theorem own_lc_lt_t {x y : Int64} (h : x < y) : ifCond.holds .lt (lcmpW x y) = true ∧ ifCond.holds .ge (lcmpW x y) = false := by
  have q : lcmpW x y < 0 := by rw [lcW, lc_lt]; exact h
  exact ⟨(if0 _ _).trans (tlt q).1, (if0 _ _).trans (tlt q).2.1⟩
theorem own_lc_lt_f {x y : Int64} (h : ¬ (x < y)) : ifCond.holds .lt (lcmpW x y) = false ∧ ifCond.holds .ge (lcmpW x y) = true := by
  have q : ¬ lcmpW x y < 0 := by rw [lcW, lc_lt]; exact h
  exact ⟨(if0 _ _).trans (flt q).1, (if0 _ _).trans (flt q).2.1⟩
theorem own_lc_gt_t {x y : Int64} (h : y < x) : ifCond.holds .gt (lcmpW x y) = true ∧ ifCond.holds .le (lcmpW x y) = false := by
  have q : 0 < lcmpW x y := by rw [lcW, lc_gt]; exact h
  exact ⟨(if0 _ _).trans (tlt q).2.2.1, (if0 _ _).trans (tlt q).2.2.2⟩
theorem own_lc_gt_f {x y : Int64} (h : ¬ (y < x)) : ifCond.holds .gt (lcmpW x y) = false ∧ ifCond.holds .le (lcmpW x y) = true := by
  have q : ¬ 0 < lcmpW x y := by rw [lcW, lc_gt]; exact h
  exact ⟨(if0 _ _).trans (flt q).2.2.1, (if0 _ _).trans (flt q).2.2.2⟩
theorem own_lc_eq_t {x y : Int64} (h : x = y) : ifCond.holds .eq (lcmpW x y) = true ∧ ifCond.holds .ne (lcmpW x y) = false := by
  have q : lcmpW x y = 0 := by rw [lcW, lc_eq]; exact h
  exact ⟨(if0 _ _).trans (teq q).1, (if0 _ _).trans (teq q).2⟩
theorem own_lc_eq_f {x y : Int64} (h : ¬ (x = y)) : ifCond.holds .eq (lcmpW x y) = false ∧ ifCond.holds .ne (lcmpW x y) = true := by
  have q : ¬ lcmpW x y = 0 := by rw [lcW, lc_eq]; exact h
  exact ⟨(if0 _ _).trans (feq q).1, (if0 _ _).trans (feq q).2⟩
theorem own_lrem {g : JFrame} {target : State} (X : Stand p l e R s m args below meth c T locs cells slots) (hx : p.tables.exec = Jvm.exec) (hg : g.method = m) {x y : Int64} {rest : List Value} (hd : decode c.code g.pc = .ok (.lrem, 1)) (hs : g.stack = .long y :: .long x :: rest) (hy : y ≠ 0)
    (hr : Steps p.tables e below (T.setTop { g with pc := g.pc + 1, stack := .long (x % y) :: rest }) target) : Steps p.tables e below (T.setTop g) target := by
  have q : x - x / y * y = x % y := lrem_mod x y
  exact XS.lrem X.here hx hg hd hs hy (by rw [q]; exact hr)
theorem own_cat {w : Value} (h : w.isRef = true) : w.category = 1 := by rcases ref_cases h with rfl | ⟨a, rfl⟩ <;> rfl
theorem own_narR {w : Value} {t : FieldType} (ht : t.isReference = true) (h : w.isRef = true) : narrow t w = w := by
  cases t <;> first | (cases ht; done) | (rcases ref_cases h with rfl | ⟨a, rfl⟩ <;> rfl)
theorem own_fitR {w : Value} {t : FieldType} (ht : t.isReference = true) (h : w.isRef = true) : fits t w = true := by
  cases t <;> first | (cases ht; done) | (rcases ref_cases h with rfl | ⟨a, rfl⟩ <;> rfl)
theorem own_narb {c : Prop} [Decidable c] {r : Int32} (h : r = if c then 0 else 1) : nar .boolean r = r := by
  by_cases q : c
  · rw [if_pos q] at h; rw [h]; rfl
  · rw [if_neg q] at h; rw [h]; rfl
/-! arrays as lists of values -/
def AL (Z : State) (h : Heap) (a : Addr) (ty : FieldType) (xs : List Value) : Prop := ∃ c : Cell, Arr Z h a c ty ∧ c.slots.toList = xs ∧ xs.length < 2147483648
variable {Z : State} {h h' : Heap} {a b : Addr} {ty : FieldType} {xs : List Value} {sl : Nat} {v : Value} {ws : List Addr} {C n d : String}
theorem AL.lt (F : AL Z h a ty xs) : a < h.size := by obtain ⟨c, A, -⟩ := F; exact A.lt
theorem AL.ext (F : AL Z h a ty xs) (E : Ext h h') : AL Z h' a ty xs := by obtain ⟨c, A, r⟩ := F; exact ⟨c, A.ext E, r⟩
theorem AL.other (F : AL Z h a ty xs) (W : Wr h h' b sl v) (q : a ≠ b) : AL Z h' a ty xs := by obtain ⟨c, A, r⟩ := F; exact ⟨c, A.other W q, r⟩
theorem AL.keep (F : AL Z h a ty xs) (K : Keep h h' ws) (q : a ∉ ws) : AL Z h' a ty xs := by obtain ⟨c, A, r⟩ := F; exact ⟨c, ⟨K.2.1 a c A.1 q, A.2⟩, r⟩
theorem AL.new {k : ClassId} {z : Int32} (A : Arr Z h a (newA k ty z) ty) (q : ¬ z < 0) {i : Nat} (hi : z.toNatClampNeg = i) : AL Z h a ty (List.replicate i (defaultValue ty)) := by
  refine ⟨_, A, ?_, ?_⟩
  · simp [newA, hi]
  · rw [List.length_replicate, ← hi]; exact (back32 q).2
theorem AL.ne {C : String} (F : AL Z h a ty xs) (G : Exa Z h b C) {a0 : Array Value} {k : Nat} (wi : (Cond.instantiable C k).before a0 Z = true) : b ≠ a := by
  obtain ⟨c, A, -⟩ := F; exact ne_arr G wi A
theorem own_idx {cl : Cell} (hc : cl.slots.toList = xs) {j : Int32} {i : Nat} (hj : j.toInt = i) (hi : i < xs.length) : ¬ (j < 0 ∨ cl.slots.size ≤ j.toNatClampNeg) ∧ j.toNatClampNeg = i := by
  have h1 : j.toNatClampNeg = i := by simp only [Int32.toNatClampNeg, hj]; rfl
  have h2 : cl.slots.size = xs.length := by rw [← hc]; simp
  refine ⟨fun q => ?_, h1⟩
  rcases q with q | q
  · rw [Int32.lt_iff_toInt_lt, hj] at q; have e0 : (0 : Int32).toInt = 0 := rfl; omega
  · omega
theorem own_at {cl : Cell} (hc : cl.slots.toList = xs) {i : Nat} : cl.slots[i]? = xs[i]? := by rw [← hc]; simp
theorem AL.set {cl : Cell} (A : Arr Z h a cl ty) (hc : cl.slots.toList = xs) (hl : xs.length < 2147483648) {i : Nat} (W : Wr h h' a i v) : AL Z h' a ty (xs.set i v) := by
  refine ⟨_, A.same W, ?_, by simpa using hl⟩
  simp [Cell.setSlot, hc]
theorem own_stI (X : Stand p l e R s m args below meth c T locs cells slots) (hx : p.tables.exec = Jvm.exec) (hZ : Z.Warmed39 s.vm) (eT : T.heap = h) (A : AL Z h a .int xs) {j x : Int32} (i : Nat) (hj : j.toInt = i) (hi : i < xs.length) {g : JFrame} (hg : g.method = m) {rest : List Value} (hs : g.stack = .int x :: .int j :: .ref a :: rest) (hd : decode c.code g.pc = .ok (.iastore, 1)) :
    ∃ T' h', Stand p l e R s m args below meth c T' (locs ++ [⟨a, i⟩]) cells slots ∧ T'.heap = h' ∧ Wr h h' a i (.int x) ∧ AL Z h' a .int (xs.set i (.int x)) ∧ ∀ target, Steps p.tables e below (T'.setTop { g with pc := g.pc + 1, stack := rest }) target → Steps p.tables e below (T.setTop g) target := by
  obtain ⟨cl, A1, A2, A3⟩ := A
  obtain ⟨q1, q2⟩ := own_idx A2 hj hi
  obtain ⟨T', h', X', e', W, st⟩ := stI X hx hZ eT A1 q1 hg hs hd
  rw [q2] at X' W
  exact ⟨T', h', X', e', W, AL.set A1 A2 A3 W, st⟩
theorem own_stJ (X : Stand p l e R s m args below meth c T locs cells slots) (hx : p.tables.exec = Jvm.exec) (hZ : Z.Warmed39 s.vm) (eT : T.heap = h) (A : AL Z h a .long xs) {j : Int32} {x : Int64} (i : Nat) (hj : j.toInt = i) (hi : i < xs.length) {g : JFrame} (hg : g.method = m) {rest : List Value} (hs : g.stack = .long x :: .int j :: .ref a :: rest) (hd : decode c.code g.pc = .ok (.lastore, 1)) :
    ∃ T' h', Stand p l e R s m args below meth c T' (locs ++ [⟨a, i⟩]) cells slots ∧ T'.heap = h' ∧ Wr h h' a i (.long x) ∧ AL Z h' a .long (xs.set i (.long x)) ∧ ∀ target, Steps p.tables e below (T'.setTop { g with pc := g.pc + 1, stack := rest }) target → Steps p.tables e below (T.setTop g) target := by
  obtain ⟨cl, A1, A2, A3⟩ := A
  obtain ⟨q1, q2⟩ := own_idx A2 hj hi
  obtain ⟨T', h', X', e', W, st⟩ := stJ X hx hZ eT A1 q1 hg hs hd
  rw [q2] at X' W
  exact ⟨T', h', X', e', W, AL.set A1 A2 A3 W, st⟩
theorem own_stB (X : Stand p l e R s m args below meth c T locs cells slots) (hx : p.tables.exec = Jvm.exec) (hZ : Z.Warmed39 s.vm) (eT : T.heap = h) (A : AL Z h a .byte xs) {j x : Int32} (i : Nat) (hj : j.toInt = i) (hi : i < xs.length) {g : JFrame} (hg : g.method = m) {rest : List Value} (hs : g.stack = .int x :: .int j :: .ref a :: rest) (hd : decode c.code g.pc = .ok (.bastore, 1)) :
    ∃ T' h', Stand p l e R s m args below meth c T' (locs ++ [⟨a, i⟩]) cells slots ∧ T'.heap = h' ∧ Wr h h' a i (.int (nar .byte x)) ∧ AL Z h' a .byte (xs.set i (.int (nar .byte x))) ∧ ∀ target, Steps p.tables e below (T'.setTop { g with pc := g.pc + 1, stack := rest }) target → Steps p.tables e below (T.setTop g) target := by
  obtain ⟨cl, A1, A2, A3⟩ := A
  obtain ⟨q1, q2⟩ := own_idx A2 hj hi
  obtain ⟨T', h', X', e', W, st⟩ := stB X hx hZ eT A1 q1 hg hs hd
  rw [q2] at X' W
  exact ⟨T', h', X', e', W, AL.set A1 A2 A3 W, st⟩
theorem own_stZ (X : Stand p l e R s m args below meth c T locs cells slots) (hx : p.tables.exec = Jvm.exec) (hZ : Z.Warmed39 s.vm) (eT : T.heap = h) (A : AL Z h a .boolean xs) {j x : Int32} (i : Nat) (hj : j.toInt = i) (hi : i < xs.length) {g : JFrame} (hg : g.method = m) {rest : List Value} (hs : g.stack = .int x :: .int j :: .ref a :: rest) (hd : decode c.code g.pc = .ok (.bastore, 1)) :
    ∃ T' h', Stand p l e R s m args below meth c T' (locs ++ [⟨a, i⟩]) cells slots ∧ T'.heap = h' ∧ Wr h h' a i (.int (nar .boolean x)) ∧ AL Z h' a .boolean (xs.set i (.int (nar .boolean x))) ∧ ∀ target, Steps p.tables e below (T'.setTop { g with pc := g.pc + 1, stack := rest }) target → Steps p.tables e below (T.setTop g) target := by
  obtain ⟨cl, A1, A2, A3⟩ := A
  obtain ⟨q1, q2⟩ := own_idx A2 hj hi
  obtain ⟨T', h', X', e', W, st⟩ := stZ X hx hZ eT A1 q1 hg hs hd
  rw [q2] at X' W
  exact ⟨T', h', X', e', W, AL.set A1 A2 A3 W, st⟩
theorem own_stC (X : Stand p l e R s m args below meth c T locs cells slots) (hx : p.tables.exec = Jvm.exec) (hZ : Z.Warmed39 s.vm) (eT : T.heap = h) (A : AL Z h a .char xs) {j x : Int32} (i : Nat) (hj : j.toInt = i) (hi : i < xs.length) {g : JFrame} (hg : g.method = m) {rest : List Value} (hs : g.stack = .int x :: .int j :: .ref a :: rest) (hd : decode c.code g.pc = .ok (.castore, 1)) :
    ∃ T' h', Stand p l e R s m args below meth c T' (locs ++ [⟨a, i⟩]) cells slots ∧ T'.heap = h' ∧ Wr h h' a i (.int (nar .char x)) ∧ AL Z h' a .char (xs.set i (.int (nar .char x))) ∧ ∀ target, Steps p.tables e below (T'.setTop { g with pc := g.pc + 1, stack := rest }) target → Steps p.tables e below (T.setTop g) target := by
  obtain ⟨cl, A1, A2, A3⟩ := A
  obtain ⟨q1, q2⟩ := own_idx A2 hj hi
  obtain ⟨T', h', X', e', W, st⟩ := stC X hx hZ eT A1 q1 hg hs hd
  rw [q2] at X' W
  exact ⟨T', h', X', e', W, AL.set A1 A2 A3 W, st⟩
theorem own_lt_len {i : Nat} (hv : xs[i]? = some v) : i < xs.length := (List.getElem?_eq_some_iff.mp hv).1
theorem own_ldI (X : Stand p l e R s m args below meth c T locs cells slots) (hx : p.tables.exec = Jvm.exec) (hZ : Z.Warmed39 s.vm) (eT : T.heap = h) (A : AL Z h a .int xs) {j : Int32} (i : Nat) (hj : j.toInt = i) (hv : xs[i]? = some v) {g : JFrame} (hg : g.method = m) {rest : List Value} (hs : g.stack = .int j :: .ref a :: rest) (hd : decode c.code g.pc = .ok (.iaload, 1)) :
    ∀ target, Steps p.tables e below (T.setTop { g with pc := g.pc + 1, stack := v :: rest }) target → Steps p.tables e below (T.setTop g) target := by
  obtain ⟨cl, A1, A2, A3⟩ := A
  obtain ⟨q1, q2⟩ := own_idx A2 hj (own_lt_len hv)
  exact X.iaload hx (by rw [eT]; exact A1.1) (State.isArrayOf_alike hZ.alike A1.2.1) A1.2.2 q1 (by rw [q2, own_at A2]; exact hv) hg hs hd
theorem own_ldJ (X : Stand p l e R s m args below meth c T locs cells slots) (hx : p.tables.exec = Jvm.exec) (hZ : Z.Warmed39 s.vm) (eT : T.heap = h) (A : AL Z h a .long xs) {j : Int32} (i : Nat) (hj : j.toInt = i) (hv : xs[i]? = some v) {g : JFrame} (hg : g.method = m) {rest : List Value} (hs : g.stack = .int j :: .ref a :: rest) (hd : decode c.code g.pc = .ok (.laload, 1)) :
    ∀ target, Steps p.tables e below (T.setTop { g with pc := g.pc + 1, stack := v :: rest }) target → Steps p.tables e below (T.setTop g) target := by
  obtain ⟨cl, A1, A2, A3⟩ := A
  obtain ⟨q1, q2⟩ := own_idx A2 hj (own_lt_len hv)
  exact X.laload hx (by rw [eT]; exact A1.1) (State.isArrayOf_alike hZ.alike A1.2.1) A1.2.2 q1 (by rw [q2, own_at A2]; exact hv) hg hs hd
theorem own_ldB (X : Stand p l e R s m args below meth c T locs cells slots) (hx : p.tables.exec = Jvm.exec) (hZ : Z.Warmed39 s.vm) (eT : T.heap = h) (A : AL Z h a .byte xs) {j : Int32} (i : Nat) (hj : j.toInt = i) (hv : xs[i]? = some v) {g : JFrame} (hg : g.method = m) {rest : List Value} (hs : g.stack = .int j :: .ref a :: rest) (hd : decode c.code g.pc = .ok (.baload, 1)) :
    ∀ target, Steps p.tables e below (T.setTop { g with pc := g.pc + 1, stack := v :: rest }) target → Steps p.tables e below (T.setTop g) target := by
  obtain ⟨cl, A1, A2, A3⟩ := A
  obtain ⟨q1, q2⟩ := own_idx A2 hj (own_lt_len hv)
  exact X.baloadBytes hx (by rw [eT]; exact A1.1) (State.isArrayOf_alike hZ.alike A1.2.1) A1.2.2 q1 (by rw [q2, own_at A2]; exact hv) hg hs hd
theorem own_ldZ (X : Stand p l e R s m args below meth c T locs cells slots) (hx : p.tables.exec = Jvm.exec) (hZ : Z.Warmed39 s.vm) (eT : T.heap = h) (A : AL Z h a .boolean xs) {j : Int32} (i : Nat) (hj : j.toInt = i) (hv : xs[i]? = some v) {g : JFrame} (hg : g.method = m) {rest : List Value} (hs : g.stack = .int j :: .ref a :: rest) (hd : decode c.code g.pc = .ok (.baload, 1)) :
    ∀ target, Steps p.tables e below (T.setTop { g with pc := g.pc + 1, stack := v :: rest }) target → Steps p.tables e below (T.setTop g) target := by
  obtain ⟨cl, A1, A2, A3⟩ := A
  obtain ⟨q1, q2⟩ := own_idx A2 hj (own_lt_len hv)
  exact X.baloadBooleans hx (by rw [eT]; exact A1.1) (State.isArrayOf_alike hZ.alike A1.2.1) A1.2.2 q1 (by rw [q2, own_at A2]; exact hv) hg hs hd
theorem own_ldC (X : Stand p l e R s m args below meth c T locs cells slots) (hx : p.tables.exec = Jvm.exec) (hZ : Z.Warmed39 s.vm) (eT : T.heap = h) (A : AL Z h a .char xs) {j : Int32} (i : Nat) (hj : j.toInt = i) (hv : xs[i]? = some v) {g : JFrame} (hg : g.method = m) {rest : List Value} (hs : g.stack = .int j :: .ref a :: rest) (hd : decode c.code g.pc = .ok (.caload, 1)) :
    ∀ target, Steps p.tables e below (T.setTop { g with pc := g.pc + 1, stack := v :: rest }) target → Steps p.tables e below (T.setTop g) target := by
  obtain ⟨cl, A1, A2, A3⟩ := A
  obtain ⟨q1, q2⟩ := own_idx A2 hj (own_lt_len hv)
  exact X.caload hx (by rw [eT]; exact A1.1) (State.isArrayOf_alike hZ.alike A1.2.1) A1.2.2 q1 (by rw [q2, own_at A2]; exact hv) hg hs hd
theorem own_ldA (X : Stand p l e R s m args below meth c T locs cells slots) (hx : p.tables.exec = Jvm.exec) (hZ : Z.Warmed39 s.vm) (eT : T.heap = h) (A : AL Z h a ty xs) (hty : ty.isReference = true) {j : Int32} (i : Nat) (hj : j.toInt = i) (hv : xs[i]? = some v) {g : JFrame} (hg : g.method = m) {rest : List Value} (hs : g.stack = .int j :: .ref a :: rest) (hd : decode c.code g.pc = .ok (.aaload, 1)) :
    ∀ target, Steps p.tables e below (T.setTop { g with pc := g.pc + 1, stack := v :: rest }) target → Steps p.tables e below (T.setTop g) target := by
  obtain ⟨cl, A1, A2, A3⟩ := A
  obtain ⟨q1, q2⟩ := own_idx A2 hj (own_lt_len hv)
  exact X.aaload hx (by rw [eT]; exact A1.1) (State.isArrayOf_alike hZ.alike A1.2.1) hty A1.2.2 q1 (by rw [q2, own_at A2]; exact hv) hg hs hd
theorem own_len (X : Stand p l e R s m args below meth c T locs cells slots) (hx : p.tables.exec = Jvm.exec) (hZ : Z.Warmed39 s.vm) (eT : T.heap = h) (A : AL Z h a ty xs) {z : Int32} (hz : z.toInt = xs.length) {g : JFrame} (hg : g.method = m) {rest : List Value} (hs : g.stack = .ref a :: rest) (hd : decode c.code g.pc = .ok (.arraylength, 1)) :
    ∀ target, Steps p.tables e below (T.setTop { g with pc := g.pc + 1, stack := .int z :: rest }) target → Steps p.tables e below (T.setTop g) target := by
  obtain ⟨cl, A1, A2, A3⟩ := A
  have h2 : cl.slots.size = xs.length := by rw [← A2]; simp
  have e1 : cl.slots.size.toInt32 = z := Int32.toInt_inj.mp (by rw [len_toInt (by omega), hz, h2])
  intro target k
  exact X.arraylength hx (by rw [eT]; exact A1.1) (State.isArrayOf_alike hZ.alike A1.2.1) hg hs hd target (by rw [e1]; exact k)
theorem AL.ofArv {k : ClassId} {z : Int32} {dv : Value} (F : Arv Z h a k ty z xs dv) (hl : z.toNatClampNeg = xs.length) : AL Z h a ty xs := by
  obtain ⟨cl, A, -, S, q, H, -⟩ := F
  have hs : cl.slots.size = xs.length := S.trans hl
  refine ⟨cl, A, ?_, by rw [← hl]; exact (back32 q).2⟩
  apply List.ext_getElem?
  intro j
  rw [← own_at (xs := cl.slots.toList) rfl]
  by_cases hj : j < xs.length
  · rw [H j (by omega)]; simp [hj]
  · rw [Array.getElem?_eq_none (by omega), List.getElem?_eq_none (by omega)]
/-! walks that load a String constant -/
abbrev OwnQW (s : State) (K N : Nat) (Q : Option Value → Heap → List Loc → Prop) : Outcome → State → Prop :=
  fun o U => ∃ v L, o = .returned v ∧ Q v U.heap L ∧ ReturnedEndW s o U L K N
theorem own_retWN {vm₁ : Vm} (X : Stand p l e R (s.setVm vm₁) m args below meth c T locs cells slots) (hx : p.tables.exec = Jvm.exec) {i : Nat} (hS : s.Since vm₁ i) (hi : i ≤ T.heap.size) {Q : Option Value → Heap → List Loc → Prop} {K N pc : Nat} {Ls : Array Slot} {z : Int32} {t : FieldType} {rest : List Value} (hret : meth.sig.returnType = some t) (ht : t = .boolean ∨ t = .byte ∨ t = .char ∨ t = .short) (hlk : meth.locks = false) (hd : decode c.code pc = .ok (.ireturn, 1))
    (hQ : Q (some (.int (nar t z))) T.heap locs) (hK : cells ≤ K) (hN : slots ≤ N) : OwnEnds p.tables e below (OwnQW s K N Q) (T.setTop (mkF m pc Ls (.int z :: rest))) := by
  obtain ⟨fs, hr, hrun, hended, h1, h2, h3, h4⟩ := X.leaveW hS hi (v := some (.int (nar t z))) (fun h => by rw [hret] at h; cases h) hlk
  exact ⟨_, _, retN X hx hret ht hd hr, hrun, hended, _, _, rfl, hQ, h1, h2, h3, h4.mono hK hN⟩
end Own

theorem own_nar1 : nar .boolean (1 : Int32) = 1 := rfl
theorem own_nar0 : nar .boolean (0 : Int32) = 0 := rfl
section OwnFl
open Jvm.FP.Core
theorem own_l2d_nz {b : Int64} (hb : b ≠ 0) : ¬ DZero (FP.l2d b) := fun h => l2d_ne_zero hb ((zero_bits2 _).mp h)
theorem own_div_nn {n d : Int64} (hd : d ≠ 0) : Jvm.FP.Core.dIsNaN (FP.ddiv (FP.l2d n) (FP.l2d d)) = false := ddiv_out (l2d_notNaN n) (l2d_fin d) (own_l2d_nz hd)
theorem own_nn {x : UInt64} (h : Jvm.FP.Core.dIsNaN x = false) : Jvm.Free.Fl.NoNaN64 x := (Jvm.Free.Fl.dcmp_some (dcmp_refl h)).1
theorem own_cmp_eq {x y : UInt64} (h : FP.dcmp x y = some .eq) : cmpValue (FP.dcmp x y) .l = 0 := by rw [h]; rfl
theorem own_dz_div {d : Int64} (hd : d ≠ 0) : DZero (FP.ddiv (FP.l2d 0) (FP.l2d d)) := by
  obtain ⟨c, q, h⟩ := l2d_shape d
  have hz := own_l2d_nz hd
  have hv : val64 (FP.ddiv (FP.l2d 0) (FP.l2d d)) = _ := val64_ddiv _ _
  have h0 : val64 (FP.l2d 0) = .fin false 0 b64.qmin := by decide +kernel
  rw [h0, show val64 (FP.l2d d) = _ from h] at hv
  have hc : c ≠ 0 := fun q' => hz ⟨_, _, by rw [show val64 (FP.l2d d) = _ from h, q']⟩
  simp only [quotient, if_neg hc, roundRatio, if_true] at hv
  exact ⟨_, _, hv⟩
theorem own_dcmp_zz {x y : UInt64} (hx : DZero x) (hy : DZero y) : FP.dcmp x y = some .eq := by
  obtain ⟨s, q, h1⟩ := hx
  obtain ⟨t, r, h2⟩ := hy
  show order (val64 x) (val64 y) = _
  rw [h1, h2]
  simp [order, inUnits, signed_zero]
theorem own_dz_neg {x : UInt64} (h : DZero x) : DZero (FP.dneg x) := by
  obtain ⟨s, q, h1⟩ := h
  rw [FP.dneg_core (DZero.fin ⟨s, q, h1⟩).notNaN]
  exact ⟨!s, q, by rw [val64_dneg x, h1]; rfl⟩
theorem own_sym {n d : Int64} (hd : d ≠ 0) (hn : ¬ n = -9223372036854775808) : FP.dcmp (FP.ddiv (FP.l2d (-n)) (FP.l2d d)) (FP.dneg (FP.ddiv (FP.l2d n) (FP.l2d d))) = some .eq := by
  by_cases h0 : n = 0
  · subst h0
    exact own_dcmp_zz (own_dz_div hd) (own_dz_neg (own_dz_div hd))
  · have h1 : -2 ^ 63 < n.toInt := by
      have := n.le_toInt
      have h2 : n.toInt ≠ -9223372036854775808 := fun q => hn (Int64.toInt_inj.mp (by rw [q]; rfl))
      omega
    have q := own_div_nn (n := n) hd
    have e1 : FP.ddiv (FP.l2d (-n)) (FP.l2d d) = FP.dneg (FP.ddiv (FP.l2d n) (FP.l2d d)) := by
      rw [FP.dneg_core q]
      show Jvm.FP.Core.ddiv (Jvm.FP.Core.l2d (-n)) (Jvm.FP.Core.l2d d) = _
      rw [l2d_neg h0 h1, ddiv_dneg]
    rw [e1]
    exact dcmp_refl (by rw [show Jvm.FP.Core.dIsNaN (FP.dneg (FP.ddiv (FP.l2d n) (FP.l2d d))) = _ from FP.dneg_nan _]; exact q)
theorem own_abs {s : Bool} {c : Nat} {i : Int} {k : Nat} (h : signed s c = i * (k : Int)) : c = i.natAbs * k := by
  have := congrArg Int.natAbs h
  rwa [natAbs_signed, Int.natAbs_mul, Int.natAbs_natCast] at this
theorem own_exact {a b q : Int64} (ha : Small53 a) (hb : Small53 b) (hb0 : b ≠ 0) (hq0 : q ≠ 0) (h : a.toInt = q.toInt * b.toInt) : FP.ddiv (FP.l2d a) (FP.l2d b) = FP.l2d q := by
  obtain ⟨ca, qa, h1⟩ := l2d_shape a
  obtain ⟨cb, qb, h2⟩ := l2d_shape b
  have w1 := l2d_whole ha
  have w2 := l2d_whole hb
  rw [h1] at w1
  rw [h2] at w2
  have e1 := own_abs (show signed _ (ca * 2 ^ qa.toNat) = a.toInt * ((2 ^ (-qa).toNat : Nat) : Int) from w1)
  have e2 := own_abs (show signed _ (cb * 2 ^ qb.toNat) = b.toInt * ((2 ^ (-qb).toNat : Nat) : Int) from w2)
  have hcb : cb ≠ 0 := fun z => own_l2d_nz hb0 ⟨_, _, by rw [show val64 (FP.l2d b) = _ from h2, z]⟩
  refine (val64_inj ?_ ?_).symm
  · exact (l2d_fin q).ne_nan
  rw [show val64 (FP.ddiv (FP.l2d a) (FP.l2d b)) = _ from val64_ddiv _ _, show val64 (FP.l2d a) = _ from h1, show val64 (FP.l2d b) = _ from h2, show val64 (FP.l2d q) = _ from val64_l2d q]
  simp only [quotient, if_neg hcb, ofInt, round]
  have hb1 : b.toInt ≠ 0 := fun z => hb0 (Int64.toInt_inj.mp z)
  have hq1 : q.toInt ≠ 0 := fun z => hq0 (Int64.toInt_inj.mp z)
  have hs : (decide (a.toInt < 0) != decide (b.toInt < 0)) = decide (q.toInt < 0) := by
    rw [h]
    rcases Int.lt_or_gt_of_ne hb1 with k1 | k1 <;> rcases Int.lt_or_gt_of_ne hq1 with k2 | k2
    · have := Int.mul_pos_of_neg_of_neg k2 k1; simp [show ¬ q.toInt * b.toInt < 0 by omega, k1, k2]
    · have := Int.mul_neg_of_pos_of_neg k2 k1; simp [this, k1, show ¬ q.toInt < 0 by omega]
    · have := Int.mul_neg_of_neg_of_pos k2 k1; simp [this, k2, show ¬ b.toInt < 0 by omega]
    · have := Int.mul_pos k2 k1; simp [show ¬ q.toInt * b.toInt < 0 by omega, show ¬ b.toInt < 0 by omega, show ¬ q.toInt < 0 by omega]
  rw [hs]
  refine roundRatio_congr (by decide) (by omega) ?_
  have e3 : a.toInt.natAbs = q.toInt.natAbs * b.toInt.natAbs := by rw [h, Int.natAbs_mul]
  rw [e3] at e1
  refine Nat.eq_of_mul_eq_mul_right (Nat.two_pow_pos (qa.toNat)) ?_
  refine Nat.eq_of_mul_eq_mul_right (Nat.two_pow_pos ((-qb).toNat)) ?_
  have hx : qb.toNat + (-qa).toNat + (qa - qb - 0).toNat = (0 - (qa - qb)).toNat + qa.toNat + (-qb).toNat := by omega
  calc q.toInt.natAbs * cb * 2 ^ (0 - (qa - qb)).toNat * 2 ^ qa.toNat * 2 ^ (-qb).toNat
      = q.toInt.natAbs * cb * 2 ^ ((0 - (qa - qb)).toNat + qa.toNat + (-qb).toNat) := by simp only [Nat.pow_add]; ac_rfl
    _ = q.toInt.natAbs * (cb * 2 ^ qb.toNat) * 2 ^ (-qa).toNat * 2 ^ (qa - qb - 0).toNat := by rw [← hx]; simp only [Nat.pow_add]; ac_rfl
    _ = (q.toInt.natAbs * b.toInt.natAbs * 2 ^ (-qa).toNat) * 2 ^ (-qb).toNat * 2 ^ (qa - qb - 0).toNat := by rw [e2]; ac_rfl
    _ = ca * 1 * 2 ^ (qa - qb - 0).toNat * 2 ^ qa.toNat * 2 ^ (-qb).toNat := by rw [← e1, Nat.mul_one]; ac_rfl
theorem own_val2 : val64 (FP.l2d 2) = .fin false 4503599627370496 (-51) := by decide +kernel
theorem own_qmin : b64.qmin = -1074 := by decide +kernel
theorem own_half {o : Int64} (ho : Small53 o) (h0 : o ≠ 0) : FP.dadd (FP.ddiv (FP.l2d o) (FP.l2d 2)) (FP.ddiv (FP.l2d o) (FP.l2d 2)) = FP.l2d o := by
  obtain ⟨c, q, h1⟩ := l2d_shape o
  have w1 := l2d_whole ho
  have hf := val64_fits (FP.l2d o)
  rw [h1] at w1 hf
  have e1 := own_abs (show signed _ (c * 2 ^ q.toNat) = o.toInt * ((2 ^ (-q).toNat : Nat) : Int) from w1)
  have ho1 : o.toInt ≠ 0 := fun z => h0 (Int64.toInt_inj.mp z)
  obtain ⟨f1, f2, f3, f4⟩ := hf
  have hq : q ≠ b64.qmin := by
    intro z
    rw [own_qmin] at z
    subst z
    have k1 : c = o.toInt.natAbs * 2 ^ 1074 := by simpa using e1
    have k2 : 1 ≤ o.toInt.natAbs := by omega
    have k3 : c < 2 ^ 53 := f1
    have k4 : 1 * 2 ^ 1074 ≤ o.toInt.natAbs * 2 ^ 1074 := Nat.mul_le_mul_right _ k2
    rw [← k1] at k4
    have k5 : (2 : Nat) ^ 53 ≤ 1 * 2 ^ 1074 := by decide +kernel
    omega
  have f5 : b64.tails ≤ c := by rcases f4 with z | z; exact absurd z hq; exact z
  have hr : val64 (FP.ddiv (FP.l2d o) (FP.l2d 2)) = .fin (decide (o.toInt < 0)) c (q - 1) := by
    rw [show val64 (FP.ddiv (FP.l2d o) (FP.l2d 2)) = _ from val64_ddiv _ _, show val64 (FP.l2d o) = _ from h1, own_val2]
    simp only [quotient]
    rw [if_neg (by decide), Bool.bne_false]
    refine roundRatio_exact good_b64 (by decide) ⟨f1, by omega, by omega, Or.inr f5⟩ ?_
    have z1 : (q - -51 - (q - 1)).toNat = 52 := by omega
    have z2 : (q - 1 - (q - -51)).toNat = 0 := by omega
    rw [z1, z2, Nat.pow_zero, Nat.mul_one]
  refine (val64_inj (l2d_fin o).ne_nan ?_).symm
  rw [show val64 (FP.dadd (FP.ddiv (FP.l2d o) (FP.l2d 2)) (FP.ddiv (FP.l2d o) (FP.l2d 2))) = _ from val64_dadd _ _, hr, show val64 (FP.l2d o) = _ from h1]
  have hu : sumUnits (decide (o.toInt < 0)) c (q - 1) (decide (o.toInt < 0)) c (q - 1) (q - 1) = signed (decide (o.toInt < 0)) (c * 2) := by
    simp only [sumUnits, inUnits, Int.sub_self, Int.toNat_zero, Nat.pow_zero, Nat.mul_one, signed_mul]; omega
  have hc : 0 < c := by
    have : 0 < b64.tails := tails_pos _
    omega
  simp only [exactSum, Int.min_self, hu, natAbs_signed, round]
  have hsg : sumSign (decide (o.toInt < 0)) (decide (o.toInt < 0)) (signed (decide (o.toInt < 0)) (c * 2)) = decide (o.toInt < 0) := by
    unfold sumSign
    rw [if_neg (fun z => by rw [signed_eq_zero] at z; omega)]
    exact signed_lt_zero _ (by omega)
  rw [hsg]
  refine (roundRatio_exact good_b64 (by decide) ⟨f1, f2, f3, f4⟩ ?_).symm
  have z1 : (q - 1 - q).toNat = 0 := by omega
  have z2 : (q - (q - 1)).toNat = 1 := by omega
  rw [z1, z2]
  omega
end OwnFl
section OwnRet
variable {p : Program} {l : Launch} {e : Env} {R : Room} {s : State} {m : MethodId} {args : Array Value} {below : List Frame} {meth : Method} {c : Code} {T : State} {locs : List Loc} {cells slots : Nat}
theorem own_retD (X : Stand p l e R s m args below meth c T locs cells slots) (hx : p.tables.exec = Jvm.exec) {Q : Option Value → Heap → List Loc → Prop} {K N pc : Nat} {Ls : Array Slot} {z : UInt64} {rest : List Value} (hret : meth.sig.returnType = some .double) (hlk : meth.locks = false) (hd : decode c.code pc = .ok (.dreturn, 1))
    (hQ : Q (some (.double z)) T.heap locs) (hK : cells ≤ K) (hN : slots ≤ N) : OwnEnds p.tables e below (OwnQ s K N Q) (T.setTop (mkF m pc Ls (.double z :: rest))) :=
  own_ret X (fun h => by rw [hret] at h; cases h) hlk (fun fs hl => retOut X hx hret rfl (Or.inr (Or.inr (Or.inl ⟨rfl, rfl, z, rfl⟩))) hd hl) hQ hK hN
end OwnRet
theorem own_dd {x d : Int64} (h : d = if x = 0 then 1 else x) : d ≠ 0 := by
  by_cases q : x = 0
  · rw [h, if_pos q]; decide
  · rw [h, if_neg q]; exact q
theorem own_sm {x : Int32} {q : Int64} (h : q = (x >>> ((7 : Int32) &&& 31)).toInt64) : -16777216 ≤ q.toInt ∧ q.toInt ≤ 16777216 := by
  have h1 := c_ishr x 7 7 rfl
  have h2 := c_i2l (x >>> ((7 : Int32) &&& 31))
  have b1 := x.toInt_lt
  have b2 := x.le_toInt
  rw [h]
  omega
theorem own_sm2 {d f : Int64} (hd : -16777216 ≤ d.toInt ∧ d.toInt ≤ 16777216) (h : f = if d = 0 then 1 else d) : -16777216 ≤ f.toInt ∧ f.toInt ≤ 16777216 := by
  have i1 : (1 : Int64).toInt = 1 := rfl
  by_cases q : d = 0
  · rw [h, if_pos q, i1]; omega
  · rw [h, if_neg q]; exact hd
theorem own_mul {x y : Int64} (hx : -16777216 ≤ x.toInt ∧ x.toInt ≤ 16777216) (hy : -16777216 ≤ y.toInt ∧ y.toInt ≤ 16777216) : (x * y).toInt = x.toInt * y.toInt ∧ -281474976710656 ≤ x.toInt * y.toInt ∧ x.toInt * y.toInt ≤ 281474976710656 := by
  have hm : (x.toInt * y.toInt).natAbs ≤ 16777216 * 16777216 := by rw [Int.natAbs_mul]; exact Nat.mul_le_mul (by omega) (by omega)
  have h2 : -281474976710656 ≤ x.toInt * y.toInt ∧ x.toInt * y.toInt ≤ 281474976710656 := by omega
  have q := c_lmul x y
  have b1 := (x * y).toInt_lt
  have b2 := (x * y).le_toInt
  exact ⟨by omega, h2⟩
theorem own_ei {x y : Int64} (hx : -16777216 ≤ x.toInt ∧ x.toInt ≤ 16777216) (hy : -16777216 ≤ y.toInt ∧ y.toInt ≤ 16777216) (hy0 : y ≠ 0) : FP.dcmp (FP.ddiv (FP.l2d (x * y)) (FP.l2d y)) (FP.l2d x) = some .eq := by
  by_cases h0 : x = 0
  · subst h0
    rw [Int64.zero_mul]
    exact own_dcmp_zz (own_dz_div hy0) ⟨false, Jvm.FP.Core.b64.qmin, by decide +kernel⟩
  · obtain ⟨m1, m2, m3⟩ := own_mul hx hy
    rw [own_exact (q := x) ⟨by omega, by omega⟩ ⟨by omega, by omega⟩ hy0 h0 m1]
    exact Jvm.FP.Core.dcmp_refl (Jvm.FP.Core.l2d_notNaN x)
theorem own_od {x o : Int64} (hx : -16777216 ≤ x.toInt ∧ x.toInt ≤ 16777216) (h : o = 2 * x + 1) : Jvm.FP.Core.Small53 o ∧ o ≠ 0 := by
  have q1 := c_lmul 2 x
  have q2 := c_ladd (2 * x) 1
  have i1 : (1 : Int64).toInt = 1 := rfl
  have i2 : (2 : Int64).toInt = 2 := rfl
  have i0 : (0 : Int64).toInt = 0 := rfl
  rw [i2] at q1
  have b1 := (2 * x).toInt_lt
  have b2 := (2 * x).le_toInt
  have b3 := (2 * x + 1).toInt_lt
  have b4 := (2 * x + 1).le_toInt
  rw [← h] at q2 b3 b4
  have hv : o.toInt = 2 * x.toInt + 1 := by omega
  exact ⟨⟨by omega, by omega⟩, fun z => by rw [z, i0] at hv; omega⟩
theorem d2_0 : decode jdk_30_method_1_code 0 = .ok (.aload_n 0, 1) := by decide +kernel
theorem d2_1 : decode jdk_30_method_1_code 1 = .ok (.invokespecial 1, 3) := by decide +kernel
theorem d2_4 : decode jdk_30_method_1_code 4 = .ok (.return_, 1) := by decide +kernel
theorem pn_0 : plainName "java/lang/Record" = true := by first | (simp [plainName, overriddenIn]; done) | decide +kernel
theorem ef_2 (m : MethodId) (a0 : Addr) : entryFrame m #[(.ref a0)] 1 = mkF m 0 #[.val (.ref a0)] [] := by first | (simp [entryFrame, mkF, argsToLocals, Value.category]; done) | rfl
def Q2 (Z : State) (a0 : Addr) (h0 : Heap) (n0 : Nat) (v : Option Value) (h : Heap) (L : List Loc) : Prop := v = none ∧ Fr n0 L ∧ h = h0
set_option maxRecDepth 65536 in
set_option maxHeartbeats 40000000 in
theorem rm2 (l : Launch) (Z : State) (aw : Array Value) (hw : ∀ d ∈ tables_1, d.before aw Z = true) (ws : List Jvm.Cond) (a0 : Addr) (h0 : Heap) (n0 : Nat) (Z0 : n0 ≤ h0.size) :
    MetFree l (⟨"java/lang/Record", "<init>", "()V"⟩ : MethodName) (head1 (Jvm.Cond.code (⟨"java/lang/Record", "<init>", "()V"⟩ : MethodName) jdk_30_method_1_code 1 none :: ws) ({ frames := 1, cells := 0, slots := 0, locals := 12 } : Room)) (fun a U => a = #[(.ref a0)] ∧ Z.Warmed39 U.vm ∧ U.heap = h0) (fun _ _ _ _ _ => True) (fun _ U o U' => ∃ v L, o = .returned v ∧ Q2 Z a0 h0 n0 v U'.heap L ∧ FrameEnd U o U' L ({ frames := 1, cells := 0, slots := 0, locals := 12 } : Room).cells ({ frames := 1, cells := 0, slots := 0, locals := 12 } : Room).slots) := by
  refine MetFree.of_bodySF (plainFor_of_name pn_0) hisR ?_
  intro p e s m args below meth c s₁ Bd hml0 hP hK
  obtain ⟨rfl, hZ, hh⟩ := hP
  have hx := Bd.exec
  have hby := Bd.bytes
  have hml : c.maxLocals = 1 := hml0
  have hown : s.vm.findClass "java/lang/Record" = some m.cls := findClass_of_methodNamed Bd.named
  have hnm := (name_of_methodNamed Bd.named Bd.method).1
  have hlk : meth.locks = false := Bd.notSynchronized
  have X0 : Stand p l e ({ frames := 1, cells := 0, slots := 0, locals := 12 } : Room) s m #[(.ref a0)] below meth c s₁ [] 0 0 := Stand.of_body Bd
  have e0 : s₁.heap = h0 := by rw [← hh, Bd.state]; rfl
  have N0 := Fr.nil n0
  show OwnEnds p.tables e below (OwnQ s ({ frames := 1, cells := 0, slots := 0, locals := 12 } : Room).cells ({ frames := 1, cells := 0, slots := 0, locals := 12 } : Room).slots (Q2 Z a0 h0 n0)) (s₁.setTop (entryFrame m #[(.ref a0)] 1))
  refine own_via (fun t k => castTop (ef_2 m a0) k) ?_
  show OwnEnds p.tables e below _ (s₁.setTop (mkF m 0 #[.val (.ref a0)] []))
  refine own_via (fun t k => XS.aloadN X0.here hx rfl (hb hby d2_0) rfl rfl k) ?_
  show OwnEnds p.tables e below _ (s₁.setTop (mkF m 1 #[.val (.ref a0)] [(.ref a0)]))
  obtain ⟨T1, X1, e1, st1⟩ := initO X0 hx hZ hown (hw _ (List.mem_of_getElem? (i := 11) rfl)) (hw _ (List.mem_of_getElem? (i := 12) rfl)) (hw _ (List.mem_of_getElem? (i := 13) rfl)) e0 (g := (mkF m 1 #[.val (.ref a0)] [(.ref a0)])) rfl (by rw [hml]; rfl) rfl (hb hby d2_1) (by decide) (W := 0) (by show 2 * 0 + _ ≤ _; exact Nat.le_of_eq rfl) (by decide)
  refine own_via st1 ?_
  show OwnEnds p.tables e below _ (T1.setTop (mkF m 4 #[.val (.ref a0)] []))
  refine own_retV X1 hx Bd.returns hlk (hb hby d2_4) ?_ (by decide) (by decide)
  rw [e1]
  exact ⟨rfl, N0, rfl⟩
theorem d1_0 : decode prog_62_method_1_code 0 = .ok (.aload_n 0, 1) := by decide +kernel
theorem d1_1 : decode prog_62_method_1_code 1 = .ok (.invokespecial 1, 3) := by decide +kernel
theorem d1_4 : decode prog_62_method_1_code 4 = .ok (.aload_n 0, 1) := by decide +kernel
theorem d1_5 : decode prog_62_method_1_code 5 = .ok (.lload_n 1, 1) := by decide +kernel
theorem d1_6 : decode prog_62_method_1_code 6 = .ok (.putfield 7, 3) := by decide +kernel
theorem d1_9 : decode prog_62_method_1_code 9 = .ok (.aload_n 0, 1) := by decide +kernel
theorem d1_10 : decode prog_62_method_1_code 10 = .ok (.lload_n 3, 1) := by decide +kernel
theorem d1_11 : decode prog_62_method_1_code 11 = .ok (.putfield 13, 3) := by decide +kernel
theorem d1_14 : decode prog_62_method_1_code 14 = .ok (.return_, 1) := by decide +kernel
theorem pn_1 : plainName "com/example/libhorn/libhorn/measures/Ratio" = true := by first | (simp [plainName, overriddenIn]; done) | decide +kernel
theorem ef_1 (m : MethodId) (a0 : Addr) (q1 : Int64) (q2 : Int64) : entryFrame m #[(.ref a0), (.long q1), (.long q2)] 5 = mkF m 0 #[.val (.ref a0), .val (.long q1), .second, .val (.long q2), .second] [] := by first | (simp [entryFrame, mkF, argsToLocals, Value.category]; done) | rfl
def Q1 (Z : State) (a0 : Addr) (q1 : Int64) (q2 : Int64) (h0 : Heap) (n0 : Nat) (v : Option Value) (h : Heap) (L : List Loc) : Prop := v = none ∧ Fr n0 L ∧ Keep h0 h [a0] ∧ Exa Z h a0 "com/example/libhorn/libhorn/measures/Ratio" ∧ Fld Z h a0 "com/example/libhorn/libhorn/measures/Ratio" "numerator" "J" (.long q1) ∧ Fld Z h a0 "com/example/libhorn/libhorn/measures/Ratio" "denominator" "J" (.long q2)
theorem pd_0 : parseMethodDescriptor "()V" = some ⟨[], none⟩ := by decide +kernel
set_option maxRecDepth 65536 in
set_option maxHeartbeats 40000000 in
theorem rm1 (l : Launch) (Z : State) (aw : Array Value) (hw : ∀ d ∈ tables_1, d.before aw Z = true) (ws : List Jvm.Cond) (a0 : Addr) (q1 : Int64) (q2 : Int64) (h0 : Heap) (n0 : Nat) (Z0 : n0 ≤ h0.size) (E_a0 : Exa Z h0 a0 "com/example/libhorn/libhorn/measures/Ratio") (F_numerator_a0 : Fld Z h0 a0 "com/example/libhorn/libhorn/measures/Ratio" "numerator" "J" (.long (0 : Int64))) (F_denominator_a0 : Fld Z h0 a0 "com/example/libhorn/libhorn/measures/Ratio" "denominator" "J" (.long (0 : Int64))) (g_a0 : n0 ≤ a0) :
    MetFree l (⟨"com/example/libhorn/libhorn/measures/Ratio", "<init>", "(JJ)V"⟩ : MethodName) (head1 (Jvm.Cond.code (⟨"com/example/libhorn/libhorn/measures/Ratio", "<init>", "(JJ)V"⟩ : MethodName) prog_62_method_1_code 5 none :: ws) ({ frames := 2, cells := 0, slots := 0, locals := 24 } : Room)) (fun a U => a = #[(.ref a0), (.long q1), (.long q2)] ∧ Z.Warmed39 U.vm ∧ U.heap = h0) (fun _ _ _ _ _ => True) (fun _ U o U' => ∃ v L, o = .returned v ∧ Q1 Z a0 q1 q2 h0 n0 v U'.heap L ∧ FrameEnd U o U' L ({ frames := 2, cells := 0, slots := 0, locals := 24 } : Room).cells ({ frames := 2, cells := 0, slots := 0, locals := 24 } : Room).slots) := by
  refine MetFree.of_bodySF (plainFor_of_name pn_1) hisR ?_
  intro p e s m args below meth c s₁ Bd hml0 hP hK
  obtain ⟨rfl, hZ, hh⟩ := hP
  have hx := Bd.exec
  have hby := Bd.bytes
  have hml : c.maxLocals = 5 := hml0
  have hown : s.vm.findClass "com/example/libhorn/libhorn/measures/Ratio" = some m.cls := findClass_of_methodNamed Bd.named
  have hnm := (name_of_methodNamed Bd.named Bd.method).1
  have hlk : meth.locks = false := Bd.notSynchronized
  have X0 : Stand p l e ({ frames := 2, cells := 0, slots := 0, locals := 24 } : Room) s m #[(.ref a0), (.long q1), (.long q2)] below meth c s₁ [] 0 0 := Stand.of_body Bd
  have e0 : s₁.heap = h0 := by rw [← hh, Bd.state]; rfl
  have N0 := Fr.nil n0
  show OwnEnds p.tables e below (OwnQ s ({ frames := 2, cells := 0, slots := 0, locals := 24 } : Room).cells ({ frames := 2, cells := 0, slots := 0, locals := 24 } : Room).slots (Q1 Z a0 q1 q2 h0 n0)) (s₁.setTop (entryFrame m #[(.ref a0), (.long q1), (.long q2)] 5))
  refine own_via (fun t k => castTop (ef_1 m a0 q1 q2) k) ?_
  show OwnEnds p.tables e below _ (s₁.setTop (mkF m 0 #[.val (.ref a0), .val (.long q1), .second, .val (.long q2), .second] []))
  have K0 : Keep h0 h0 [a0] := Keep.refl _ _
  refine own_via (fun t k => XS.aloadN X0.here hx rfl (hb hby d1_0) rfl rfl k) ?_
  show OwnEnds p.tables e below _ (s₁.setTop (mkF m 1 #[.val (.ref a0), .val (.long q1), .second, .val (.long q2), .second] [(.ref a0)]))
  obtain ⟨_, _, ⟨T1, L1, k1, n1⟩, -, X1, ⟨Lc1, hQ1, l1, y1, z1⟩, st1⟩ := X0.specialBack hx (y := (⟨"java/lang/Record", "<init>", "()V"⟩ : MethodName)) rfl hown (mvT hZ (hw _ (List.mem_of_getElem? (i := 6) rfl))) (mvT hZ (hw _ (List.mem_of_getElem? (i := 7) rfl))) (mvT hZ (hw _ (List.mem_of_getElem? (i := 10) rfl))) (by decide) (backOf (W := 0) (rm2 l Z aw hw [] a0 h0 n0 Z0 ) hZ (hw _ (List.mem_of_getElem? (i := 10) rfl)) (hw _ (List.mem_of_getElem? (i := 9) rfl)) (by decide) (by decide)) (g := (mkF m 1 #[.val (.ref a0), .val (.long q1), .second, .val (.long q2), .second] [(.ref a0)])) rfl (by rw [hml]; rfl) (Steps.refl _) (a := a0) (argsL := []) (rest := []) (lenOf pd_0 rfl) rfl (by show 2 * 0 + _ ≤ _; exact Nat.le_of_eq rfl) (hb hby d1_1) (fun _ _ => ⟨rfl, e0, (by decide : 0 + 0 ≤ _), (by decide : 0 + 0 ≤ _)⟩)
  dsimp only [Pt.U, Pt.locs, Pt.cells, Pt.slots] at X1 l1 y1 z1 st1 hQ1
  rw [l1, y1, z1] at X1
  obtain ⟨rfl, Nq1, e1⟩ := hQ1
  have N1 := Fr.app N0 Nq1
  replace e1 : T1.heap = h0 := e1
  refine own_of st1 ?_
  show OwnEnds p.tables e below _ (T1.setTop (mkF m 4 #[.val (.ref a0), .val (.long q1), .second, .val (.long q2), .second] []))
  refine own_via (fun t k => XS.aloadN X1.here hx rfl (hb hby d1_4) rfl rfl k) ?_
  show OwnEnds p.tables e below _ (T1.setTop (mkF m 5 #[.val (.ref a0), .val (.long q1), .second, .val (.long q2), .second] [(.ref a0)]))
  refine own_via (fun t k => XS.lloadN X1.here hx rfl (hb hby d1_5) rfl k) ?_
  show OwnEnds p.tables e below _ (T1.setTop (mkF m 6 #[.val (.ref a0), .val (.long q1), .second, .val (.long q2), .second] [(.long q1), (.ref a0)]))
  obtain ⟨T2, h2, X2, e2, W2, st2⟩ := putF X1 hx hZ hown (host := "") (Or.inl (hw _ (List.mem_of_getElem? (i := 14) rfl))) Via.refl e1 F_numerator_a0 E_a0 (Or.inr ⟨(hw _ (List.mem_of_getElem? (i := 15) rfl)), rfl, hnm⟩) (hw _ (List.mem_of_getElem? (i := 1) rfl)) (ty := .long) (by decide) rfl rfl (g := (mkF m 6 #[.val (.ref a0), .val (.long q1), .second, .val (.long q2), .second] [(.long q1), (.ref a0)])) rfl rfl (hb hby d1_6)
  replace E_a0 := E_a0.wr W2
  replace F_numerator_a0 := F_numerator_a0.same W2
  replace F_denominator_a0 := F_denominator_a0.other W2 (Or.inr (slot_ne (Or.inr (hw _ (List.mem_of_getElem? (i := 17) rfl))) (Or.inr (hw _ (List.mem_of_getElem? (i := 15) rfl))) (by decide) (t := .long) (t' := .long) (by decide) (by decide)))
  replace K0 := K0.wr W2 (Or.inl (List.mem_of_getElem? (i := 0) rfl))
  have Zs_W2 : n0 ≤ _ := Nat.le_trans Z0 (Keep.of_wr W2).1
  have N2 := Fr.snoc X2 N1 g_a0
  refine own_via st2 ?_
  show OwnEnds p.tables e below _ (T2.setTop (mkF m 9 #[.val (.ref a0), .val (.long q1), .second, .val (.long q2), .second] []))
  refine own_via (fun t k => XS.aloadN X2.here hx rfl (hb hby d1_9) rfl rfl k) ?_
  show OwnEnds p.tables e below _ (T2.setTop (mkF m 10 #[.val (.ref a0), .val (.long q1), .second, .val (.long q2), .second] [(.ref a0)]))
  refine own_via (fun t k => XS.lloadN X2.here hx rfl (hb hby d1_10) rfl k) ?_
  show OwnEnds p.tables e below _ (T2.setTop (mkF m 11 #[.val (.ref a0), .val (.long q1), .second, .val (.long q2), .second] [(.long q2), (.ref a0)]))
  obtain ⟨T3, h3, X3, e3, W3, st3⟩ := putF X2 hx hZ hown (host := "") (Or.inl (hw _ (List.mem_of_getElem? (i := 16) rfl))) Via.refl e2 F_denominator_a0 E_a0 (Or.inr ⟨(hw _ (List.mem_of_getElem? (i := 17) rfl)), rfl, hnm⟩) (hw _ (List.mem_of_getElem? (i := 1) rfl)) (ty := .long) (by decide) rfl rfl (g := (mkF m 11 #[.val (.ref a0), .val (.long q1), .second, .val (.long q2), .second] [(.long q2), (.ref a0)])) rfl rfl (hb hby d1_11)
  replace E_a0 := E_a0.wr W3
  replace F_numerator_a0 := F_numerator_a0.other W3 (Or.inr (slot_ne (Or.inr (hw _ (List.mem_of_getElem? (i := 15) rfl))) (Or.inr (hw _ (List.mem_of_getElem? (i := 17) rfl))) (by decide) (t := .long) (t' := .long) (by decide) (by decide)))
  replace F_denominator_a0 := F_denominator_a0.same W3
  replace K0 := K0.wr W3 (Or.inl (List.mem_of_getElem? (i := 0) rfl))
  have Zs_W3 : n0 ≤ _ := Nat.le_trans Zs_W2 (Keep.of_wr W3).1
  have N3 := Fr.snoc X3 N2 g_a0
  refine own_via st3 ?_
  show OwnEnds p.tables e below _ (T3.setTop (mkF m 14 #[.val (.ref a0), .val (.long q1), .second, .val (.long q2), .second] []))
  refine own_retV X3 hx Bd.returns hlk (hb hby d1_14) ?_ (by decide) (by decide)
  rw [e3]
  exact ⟨rfl, N3, K0, E_a0, F_numerator_a0, F_denominator_a0⟩
theorem d4_0 : decode prog_62_method_2_code 0 = .ok (.aload_n 0, 1) := by decide +kernel
theorem d4_1 : decode prog_62_method_2_code 1 = .ok (.getfield 13, 3) := by decide +kernel
theorem d4_4 : decode prog_62_method_2_code 4 = .ok (.lconst 0, 1) := by decide +kernel
theorem d4_5 : decode prog_62_method_2_code 5 = .ok (.lcmp, 1) := by decide +kernel
theorem d4_6 : decode prog_62_method_2_code 6 = .ok (.ifCond .ne 9, 3) := by decide +kernel
theorem d4_9 : decode prog_62_method_2_code 9 = .ok (.ldc2_w 18, 3) := by decide +kernel
theorem d4_12 : decode prog_62_method_2_code 12 = .ok (.goto 14, 3) := by decide +kernel
theorem d4_15 : decode prog_62_method_2_code 15 = .ok (.aload_n 0, 1) := by decide +kernel
theorem d4_16 : decode prog_62_method_2_code 16 = .ok (.getfield 7, 3) := by decide +kernel
theorem d4_19 : decode prog_62_method_2_code 19 = .ok (.l2d, 1) := by decide +kernel
theorem d4_20 : decode prog_62_method_2_code 20 = .ok (.aload_n 0, 1) := by decide +kernel
theorem d4_21 : decode prog_62_method_2_code 21 = .ok (.getfield 13, 3) := by decide +kernel
theorem d4_24 : decode prog_62_method_2_code 24 = .ok (.l2d, 1) := by decide +kernel
theorem d4_25 : decode prog_62_method_2_code 25 = .ok (.ddiv, 1) := by decide +kernel
theorem d4_26 : decode prog_62_method_2_code 26 = .ok (.dreturn, 1) := by decide +kernel
theorem ef_4z (m : MethodId) (a0 : Addr) : entryFrame m #[(.ref a0)] 1 = mkF m 0 #[.val (.ref a0)] [] := by first | (simp [entryFrame, mkF, argsToLocals, Value.category]; done) | rfl
def Q4z (Z : State) (a0 : Addr) (h0 : Heap) (n0 : Nat) (v : Option Value) (h : Heap) (L : List Loc) : Prop := v = some (.double (9221120237041090560 : UInt64)) ∧ Fr n0 L ∧ h = h0
set_option maxRecDepth 65536 in
set_option maxHeartbeats 40000000 in
theorem rm4z (l : Launch) (Z : State) (aw : Array Value) (hw : ∀ d ∈ tables_1, d.before aw Z = true) (ws : List Jvm.Cond) (a0 : Addr) (h0 : Heap) (n0 : Nat) (Z0 : n0 ≤ h0.size) (F_den : Fld Z h0 a0 "com/example/libhorn/libhorn/measures/Ratio" "denominator" "J" (.long (0 : Int64))) :
    MetFree l (⟨"com/example/libhorn/libhorn/measures/Ratio", "value", "()D"⟩ : MethodName) (head1 (Jvm.Cond.code (⟨"com/example/libhorn/libhorn/measures/Ratio", "value", "()D"⟩ : MethodName) prog_62_method_2_code 1 (some .double) :: ws) ({ frames := 0, cells := 0, slots := 0, locals := 0 } : Room)) (fun a U => a = #[(.ref a0)] ∧ Z.Warmed39 U.vm ∧ U.heap = h0) (fun _ _ _ _ _ => True) (fun _ U o U' => ∃ v L, o = .returned v ∧ Q4z Z a0 h0 n0 v U'.heap L ∧ FrameEnd U o U' L ({ frames := 0, cells := 0, slots := 0, locals := 0 } : Room).cells ({ frames := 0, cells := 0, slots := 0, locals := 0 } : Room).slots) := by
  refine MetFree.of_bodySF (plainFor_of_name pn_1) hisR ?_
  intro p e s m args below meth c s₁ Bd hml0 hP hK
  obtain ⟨rfl, hZ, hh⟩ := hP
  have hx := Bd.exec
  have hby := Bd.bytes
  have hml : c.maxLocals = 1 := hml0
  have hown : s.vm.findClass "com/example/libhorn/libhorn/measures/Ratio" = some m.cls := findClass_of_methodNamed Bd.named
  have hnm := (name_of_methodNamed Bd.named Bd.method).1
  have hlk : meth.locks = false := Bd.notSynchronized
  have X0 : Stand p l e ({ frames := 0, cells := 0, slots := 0, locals := 0 } : Room) s m #[(.ref a0)] below meth c s₁ [] 0 0 := Stand.of_body Bd
  have e0 : s₁.heap = h0 := by rw [← hh, Bd.state]; rfl
  have N0 := Fr.nil n0
  show OwnEnds p.tables e below (OwnQ s ({ frames := 0, cells := 0, slots := 0, locals := 0 } : Room).cells ({ frames := 0, cells := 0, slots := 0, locals := 0 } : Room).slots (Q4z Z a0 h0 n0)) (s₁.setTop (entryFrame m #[(.ref a0)] 1))
  refine own_via (fun t k => castTop (ef_4z m a0) k) ?_
  show OwnEnds p.tables e below _ (s₁.setTop (mkF m 0 #[.val (.ref a0)] []))
  refine own_via (fun t k => XS.aloadN X0.here hx rfl (hb hby d4_0) rfl rfl k) ?_
  show OwnEnds p.tables e below _ (s₁.setTop (mkF m 1 #[.val (.ref a0)] [(.ref a0)]))
  obtain ⟨T1, X1, e1, st1⟩ := getF X0 hx hZ hown (host := "") (Or.inl (hw _ (List.mem_of_getElem? (i := 16) rfl))) Via.refl e0 F_den (g := (mkF m 1 #[.val (.ref a0)] [(.ref a0)])) rfl rfl (hb hby d4_1)
  refine own_via st1 ?_
  show OwnEnds p.tables e below _ (T1.setTop (mkF m 4 #[.val (.ref a0)] [(.long (0 : Int64))]))
  refine own_via (fun t k => XS.lconst X1.here hx rfl (hb hby d4_4) k) ?_
  show OwnEnds p.tables e below _ (T1.setTop (mkF m 5 #[.val (.ref a0)] [(.long (0 : Int64)), (.long (0 : Int64))]))
  refine own_via (fun t k => XS.lcmp X1.here hx rfl (hb hby d4_5) rfl k) ?_
  show OwnEnds p.tables e below _ (T1.setTop (mkF m 6 #[.val (.ref a0)] [(.int (lcmpW (0 : Int64) (0 : Int64)))]))
  have hc6_2 : (0 : Int64) = (0 : Int64) := rfl
  refine own_via (fun t k => XS.ifNo X1.here hx rfl (hb hby d4_6) rfl (own_lc_eq_t hc6_2).2 k) ?_
  show OwnEnds p.tables e below _ (T1.setTop (mkF m 9 #[.val (.ref a0)] []))
  refine own_via (X1.ldc2DoubleC hx hown (mvT hZ (hw _ (List.mem_of_getElem? (i := 23) rfl))) (g := (mkF m 9 #[.val (.ref a0)] [])) rfl (hb hby d4_9)) ?_
  show OwnEnds p.tables e below _ (T1.setTop (mkF m 12 #[.val (.ref a0)] [(.double (9221120237041090560 : UInt64))]))
  refine own_via (fun t k => XS.goto X1.here hx rfl (pc0 := 12) (pc' := 26) rfl (hb hby d4_12) (by decide) (by decide) k) ?_
  show OwnEnds p.tables e below _ (T1.setTop (mkF m 26 #[.val (.ref a0)] [(.double (9221120237041090560 : UInt64))]))
  refine own_retD X1 hx Bd.returns hlk (hb hby d4_26) ?_ (by decide) (by decide)
  rw [e1]
  exact ⟨rfl, N0, rfl⟩
theorem ef_4q (m : MethodId) (a0 : Addr) : entryFrame m #[(.ref a0)] 1 = mkF m 0 #[.val (.ref a0)] [] := by first | (simp [entryFrame, mkF, argsToLocals, Value.category]; done) | rfl
def Q4q (Z : State) (a0 : Addr) (nu : Int64) (de : Int64) (h0 : Heap) (n0 : Nat) (v : Option Value) (h : Heap) (L : List Loc) : Prop := v = some (.double (FP.ddiv (FP.l2d nu) (FP.l2d de))) ∧ Fr n0 L ∧ h = h0
set_option maxRecDepth 65536 in
set_option maxHeartbeats 40000000 in
theorem rm4q (l : Launch) (Z : State) (aw : Array Value) (hw : ∀ d ∈ tables_1, d.before aw Z = true) (ws : List Jvm.Cond) (a0 : Addr) (nu : Int64) (de : Int64) (h0 : Heap) (n0 : Nat) (Z0 : n0 ≤ h0.size) (F_num : Fld Z h0 a0 "com/example/libhorn/libhorn/measures/Ratio" "numerator" "J" (.long nu)) (F_den : Fld Z h0 a0 "com/example/libhorn/libhorn/measures/Ratio" "denominator" "J" (.long de)) (hde : ¬ de = 0) :
    MetFree l (⟨"com/example/libhorn/libhorn/measures/Ratio", "value", "()D"⟩ : MethodName) (head1 (Jvm.Cond.code (⟨"com/example/libhorn/libhorn/measures/Ratio", "value", "()D"⟩ : MethodName) prog_62_method_2_code 1 (some .double) :: ws) ({ frames := 0, cells := 0, slots := 0, locals := 0 } : Room)) (fun a U => a = #[(.ref a0)] ∧ Z.Warmed39 U.vm ∧ U.heap = h0) (fun _ _ _ _ _ => True) (fun _ U o U' => ∃ v L, o = .returned v ∧ Q4q Z a0 nu de h0 n0 v U'.heap L ∧ FrameEnd U o U' L ({ frames := 0, cells := 0, slots := 0, locals := 0 } : Room).cells ({ frames := 0, cells := 0, slots := 0, locals := 0 } : Room).slots) := by
  refine MetFree.of_bodySF (plainFor_of_name pn_1) hisR ?_
  intro p e s m args below meth c s₁ Bd hml0 hP hK
  obtain ⟨rfl, hZ, hh⟩ := hP
  have hx := Bd.exec
  have hby := Bd.bytes
  have hml : c.maxLocals = 1 := hml0
  have hown : s.vm.findClass "com/example/libhorn/libhorn/measures/Ratio" = some m.cls := findClass_of_methodNamed Bd.named
  have hnm := (name_of_methodNamed Bd.named Bd.method).1
  have hlk : meth.locks = false := Bd.notSynchronized
  have X0 : Stand p l e ({ frames := 0, cells := 0, slots := 0, locals := 0 } : Room) s m #[(.ref a0)] below meth c s₁ [] 0 0 := Stand.of_body Bd
  have e0 : s₁.heap = h0 := by rw [← hh, Bd.state]; rfl
  have N0 := Fr.nil n0
  show OwnEnds p.tables e below (OwnQ s ({ frames := 0, cells := 0, slots := 0, locals := 0 } : Room).cells ({ frames := 0, cells := 0, slots := 0, locals := 0 } : Room).slots (Q4q Z a0 nu de h0 n0)) (s₁.setTop (entryFrame m #[(.ref a0)] 1))
  refine own_via (fun t k => castTop (ef_4q m a0) k) ?_
  show OwnEnds p.tables e below _ (s₁.setTop (mkF m 0 #[.val (.ref a0)] []))
  refine own_via (fun t k => XS.aloadN X0.here hx rfl (hb hby d4_0) rfl rfl k) ?_
  show OwnEnds p.tables e below _ (s₁.setTop (mkF m 1 #[.val (.ref a0)] [(.ref a0)]))
  obtain ⟨T1, X1, e1, st1⟩ := getF X0 hx hZ hown (host := "") (Or.inl (hw _ (List.mem_of_getElem? (i := 16) rfl))) Via.refl e0 F_den (g := (mkF m 1 #[.val (.ref a0)] [(.ref a0)])) rfl rfl (hb hby d4_1)
  refine own_via st1 ?_
  show OwnEnds p.tables e below _ (T1.setTop (mkF m 4 #[.val (.ref a0)] [(.long de)]))
  refine own_via (fun t k => XS.lconst X1.here hx rfl (hb hby d4_4) k) ?_
  show OwnEnds p.tables e below _ (T1.setTop (mkF m 5 #[.val (.ref a0)] [(.long (0 : Int64)), (.long de)]))
  refine own_via (fun t k => XS.lcmp X1.here hx rfl (hb hby d4_5) rfl k) ?_
  show OwnEnds p.tables e below _ (T1.setTop (mkF m 6 #[.val (.ref a0)] [(.int (lcmpW de (0 : Int64)))]))
  have hc6_2 : ¬ (de = (0 : Int64)) := hde
  refine own_via (fun t k => XS.ifYes X1.here hx rfl (pc0 := 6) (pc' := 15) rfl (hb hby d4_6) rfl (own_lc_eq_f hc6_2).2 (by decide) (by decide) k) ?_
  show OwnEnds p.tables e below _ (T1.setTop (mkF m 15 #[.val (.ref a0)] []))
  refine own_via (fun t k => XS.aloadN X1.here hx rfl (hb hby d4_15) rfl rfl k) ?_
  show OwnEnds p.tables e below _ (T1.setTop (mkF m 16 #[.val (.ref a0)] [(.ref a0)]))
  obtain ⟨T3, X3, e3, st3⟩ := getF X1 hx hZ hown (host := "") (Or.inl (hw _ (List.mem_of_getElem? (i := 14) rfl))) Via.refl e1 F_num (g := (mkF m 16 #[.val (.ref a0)] [(.ref a0)])) rfl rfl (hb hby d4_16)
  refine own_via st3 ?_
  show OwnEnds p.tables e below _ (T3.setTop (mkF m 19 #[.val (.ref a0)] [(.long nu)]))
  refine own_via (fun t k => XS.l2dS X3.here hx rfl (hb hby d4_19) rfl rfl k) ?_
  show OwnEnds p.tables e below _ (T3.setTop (mkF m 20 #[.val (.ref a0)] [(.double (FP.l2d nu))]))
  refine own_via (fun t k => XS.aloadN X3.here hx rfl (hb hby d4_20) rfl rfl k) ?_
  show OwnEnds p.tables e below _ (T3.setTop (mkF m 21 #[.val (.ref a0)] [(.ref a0), (.double (FP.l2d nu))]))
  obtain ⟨T4, X4, e4, st4⟩ := getF X3 hx hZ hown (host := "") (Or.inl (hw _ (List.mem_of_getElem? (i := 16) rfl))) Via.refl e3 F_den (g := (mkF m 21 #[.val (.ref a0)] [(.ref a0), (.double (FP.l2d nu))])) rfl rfl (hb hby d4_21)
  refine own_via st4 ?_
  show OwnEnds p.tables e below _ (T4.setTop (mkF m 24 #[.val (.ref a0)] [(.long de), (.double (FP.l2d nu))]))
  refine own_via (fun t k => XS.l2dS X4.here hx rfl (hb hby d4_24) rfl rfl k) ?_
  show OwnEnds p.tables e below _ (T4.setTop (mkF m 25 #[.val (.ref a0)] [(.double (FP.l2d de)), (.double (FP.l2d nu))]))
  refine own_via (fun t k => XS.ddivS X4.here hx rfl (hb hby d4_25) rfl (own_nn (own_div_nn hde)) rfl k) ?_
  show OwnEnds p.tables e below _ (T4.setTop (mkF m 26 #[.val (.ref a0)] [(.double (FP.ddiv (FP.l2d nu) (FP.l2d de)))]))
  refine own_retD X4 hx Bd.returns hlk (hb hby d4_26) ?_ (by decide) (by decide)
  rw [e4]
  exact ⟨rfl, N0, rfl⟩
theorem pn_2 : plainName "com/example/libhorn/libhorn/measures/RatioValuePinLaw" = true := by first | (simp [plainName, overriddenIn]; done) | decide +kernel
theorem ef_0 (m : MethodId) (q0 : Int64) (q1 : Int64) (p2 : Int32) (p3 : Int32) : entryFrame m #[(.long q0), (.long q1), (.int p2), (.int p3)] maxLocals = mkF m 0 #[.val (.long q0), .second, .val (.long q1), .second, .val (.int p2), .val (.int p3), .unset, .unset, .unset, .unset, .unset, .unset, .unset, .unset, .unset, .unset, .unset, .unset, .unset, .unset, .unset, .unset, .unset, .unset, .unset] [] := by first | (simp [entryFrame, mkF, argsToLocals, Value.category, maxLocals]; done) | rfl
def Q0 (Z : State) (q0 : Int64) (q1 : Int64) (p2 : Int32) (p3 : Int32) (h0 : Heap) (n0 : Nat) (v : Option Value) (h : Heap) (L : List Loc) : Prop := v = some (.int 1) ∧ Fr n0 L
theorem pd_1 : parseMethodDescriptor "(JJ)V" = some ⟨[.long, .long], none⟩ := by decide +kernel
theorem pd_2 : parseMethodDescriptor "()D" = some ⟨[], some .double⟩ := by decide +kernel
set_option maxRecDepth 65536 in
set_option maxHeartbeats 40000000 in
theorem rm0 (l : Launch) (Z : State) (aw : Array Value) (hw : ∀ d ∈ tables_1, d.before aw Z = true) (ws : List Jvm.Cond) (q0 : Int64) (q1 : Int64) (p2 : Int32) (p3 : Int32) (h0 : Heap) (n0 : Nat) (Z0 : n0 ≤ h0.size) :
    MetFree l x (head1 (Jvm.Cond.code x code maxLocals ret :: ws) room_1) (fun a U => a = #[(.long q0), (.long q1), (.int p2), (.int p3)] ∧ Z.Warmed39 U.vm ∧ U.heap = h0) (fun _ _ _ _ _ => True) (fun _ U o U' => ∃ v L, o = .returned v ∧ Q0 Z q0 q1 p2 p3 h0 n0 v U'.heap L ∧ FrameEnd U o U' L 24 128) := by
  refine MetFree.of_bodySF (plainFor_of_name pn_2) hisR ?_
  intro p e s m args below meth c s₁ Bd hml0 hP hK
  obtain ⟨rfl, hZ, hh⟩ := hP
  have hx := Bd.exec
  have hby := Bd.bytes
  have hml : c.maxLocals = 25 := hml0
  have hown : s.vm.findClass "com/example/libhorn/libhorn/measures/RatioValuePinLaw" = some m.cls := findClass_of_methodNamed Bd.named
  have hnm := (name_of_methodNamed Bd.named Bd.method).1
  have hlk : meth.locks = false := Bd.notSynchronized
  have X0 : Stand p l e room_1 s m #[(.long q0), (.long q1), (.int p2), (.int p3)] below meth c s₁ [] 0 0 := Stand.of_body Bd
  have e0 : s₁.heap = h0 := by rw [← hh, Bd.state]; rfl
  have N0 := Fr.nil n0
  show OwnEnds p.tables e below (OwnQ s 24 128 (Q0 Z q0 q1 p2 p3 h0 n0)) (s₁.setTop (entryFrame m #[(.long q0), (.long q1), (.int p2), (.int p3)] maxLocals))
  refine own_via (fun t k => castTop (ef_0 m q0 q1 p2 p3) k) ?_
  show OwnEnds p.tables e below _ (s₁.setTop (mkF m 0 #[.val (.long q0), .second, .val (.long q1), .second, .val (.int p2), .val (.int p3), .unset, .unset, .unset, .unset, .unset, .unset, .unset, .unset, .unset, .unset, .unset, .unset, .unset, .unset, .unset, .unset, .unset, .unset, .unset] []))
  obtain ⟨T1, h1, X1, e1, E1, A1, D1, -, st1⟩ := newO X0 hx hZ hown (hw _ (List.mem_of_getElem? (i := 0) rfl)) (hw _ (List.mem_of_getElem? (i := 1) rfl)) (hw _ (List.mem_of_getElem? (i := 2) rfl)) e0 (g := (mkF m 0 #[.val (.long q0), .second, .val (.long q1), .second, .val (.int p2), .val (.int p3), .unset, .unset, .unset, .unset, .unset, .unset, .unset, .unset, .unset, .unset, .unset, .unset, .unset, .unset, .unset, .unset, .unset, .unset, .unset] [])) rfl (hb hby at_0) (by decide) (by decide)
  obtain ⟨b1, g1⟩ : ∃ z, z = h0.size := ⟨_, rfl⟩
  rw [← g1] at A1 D1 st1
  have g_b1 : n0 ≤ b1 := Nat.le_trans Z0 (Nat.le_of_eq g1.symm)
  have Zs_1 : n0 ≤ _ := Nat.le_trans Z0 E1.1
  have E_b1 := A1
  have F_numerator_b1 : Fld Z h1 b1 "com/example/libhorn/libhorn/measures/Ratio" "numerator" "J" (.long (0 : Int64)) := D1 (Or.inr (hw _ (List.mem_of_getElem? (i := 15) rfl))) (ty := .long) (by decide)
  have F_denominator_b1 : Fld Z h1 b1 "com/example/libhorn/libhorn/measures/Ratio" "denominator" "J" (.long (0 : Int64)) := D1 (Or.inr (hw _ (List.mem_of_getElem? (i := 17) rfl))) (ty := .long) (by decide)
  refine own_via st1 ?_
  show OwnEnds p.tables e below _ (T1.setTop (mkF m 3 #[.val (.long q0), .second, .val (.long q1), .second, .val (.int p2), .val (.int p3), .unset, .unset, .unset, .unset, .unset, .unset, .unset, .unset, .unset, .unset, .unset, .unset, .unset, .unset, .unset, .unset, .unset, .unset, .unset] [(.ref b1)]))
  refine own_via (fun t k => XS.dup X1.here hx rfl (hb hby at_3) rfl rfl k) ?_
  show OwnEnds p.tables e below _ (T1.setTop (mkF m 4 #[.val (.long q0), .second, .val (.long q1), .second, .val (.int p2), .val (.int p3), .unset, .unset, .unset, .unset, .unset, .unset, .unset, .unset, .unset, .unset, .unset, .unset, .unset, .unset, .unset, .unset, .unset, .unset, .unset] [(.ref b1), (.ref b1)]))
  refine own_via (fun t k => XS.lloadN X1.here hx rfl (hb hby at_4) rfl k) ?_
  show OwnEnds p.tables e below _ (T1.setTop (mkF m 5 #[.val (.long q0), .second, .val (.long q1), .second, .val (.int p2), .val (.int p3), .unset, .unset, .unset, .unset, .unset, .unset, .unset, .unset, .unset, .unset, .unset, .unset, .unset, .unset, .unset, .unset, .unset, .unset, .unset] [(.long q0), (.ref b1), (.ref b1)]))
  refine own_via (fun t k => XS.lconst X1.here hx rfl (hb hby at_5) k) ?_
  show OwnEnds p.tables e below _ (T1.setTop (mkF m 6 #[.val (.long q0), .second, .val (.long q1), .second, .val (.int p2), .val (.int p3), .unset, .unset, .unset, .unset, .unset, .unset, .unset, .unset, .unset, .unset, .unset, .unset, .unset, .unset, .unset, .unset, .unset, .unset, .unset] [(.long (0 : Int64)), (.long q0), (.ref b1), (.ref b1)]))
  obtain ⟨_, _, ⟨T2, L2, k2, n2⟩, -, X2, ⟨Lc2, hQ2, l2, y2, z2⟩, st2⟩ := X1.specialBack hx (y := (⟨"com/example/libhorn/libhorn/measures/Ratio", "<init>", "(JJ)V"⟩ : MethodName)) rfl hown (mvT hZ (hw _ (List.mem_of_getElem? (i := 3) rfl))) (mvT hZ (hw _ (List.mem_of_getElem? (i := 4) rfl))) (mvT hZ (hw _ (List.mem_of_getElem? (i := 5) rfl))) (by decide) (backOf (W := 1) (rm1 l Z aw hw [] b1 q0 (0 : Int64) h1 n0 Zs_1 E_b1 F_numerator_b1 F_denominator_b1 g_b1) hZ (hw _ (List.mem_of_getElem? (i := 5) rfl)) (hw _ (List.mem_of_getElem? (i := 2) rfl)) (by decide) (by decide)) (g := (mkF m 6 #[.val (.long q0), .second, .val (.long q1), .second, .val (.int p2), .val (.int p3), .unset, .unset, .unset, .unset, .unset, .unset, .unset, .unset, .unset, .unset, .unset, .unset, .unset, .unset, .unset, .unset, .unset, .unset, .unset] [(.long (0 : Int64)), (.long q0), (.ref b1), (.ref b1)])) rfl (by rw [hml]; rfl) (Steps.refl _) (a := b1) (argsL := [(.long q0), (.long (0 : Int64))]) (rest := [(.ref b1)]) (lenOf pd_1 rfl) rfl (by show 2 * 0 + _ ≤ _; exact Nat.le_of_eq rfl) (hb hby at_6) (fun _ _ => ⟨rfl, e1, (by decide : 1 + 0 ≤ _), (by decide : 2 + 0 ≤ _)⟩)
  dsimp only [Pt.U, Pt.locs, Pt.cells, Pt.slots] at X2 l2 y2 z2 st2 hQ2
  rw [l2, y2, z2] at X2
  obtain ⟨h2, e2⟩ : ∃ z, T2.heap = z := ⟨_, rfl⟩
  rw [e2] at hQ2
  obtain ⟨rfl, Nq2, K2, Y2_0, Y2_1, Y2_2⟩ := hQ2
  have N2 := Fr.app N0 Nq2
  replace E_b1 := E_b1.keep K2
  have F_numerator_b1 : Fld Z h2 b1 "com/example/libhorn/libhorn/measures/Ratio" "numerator" "J" (.long q0) := Y2_1
  have F_denominator_b1 : Fld Z h2 b1 "com/example/libhorn/libhorn/measures/Ratio" "denominator" "J" (.long (0 : Int64)) := Y2_2
  have Zs_2 : n0 ≤ _ := Nat.le_trans Zs_1 K2.1
  refine own_of st2 ?_
  show OwnEnds p.tables e below _ (T2.setTop (mkF m 9 #[.val (.long q0), .second, .val (.long q1), .second, .val (.int p2), .val (.int p3), .unset, .unset, .unset, .unset, .unset, .unset, .unset, .unset, .unset, .unset, .unset, .unset, .unset, .unset, .unset, .unset, .unset, .unset, .unset] [(.ref b1)]))
  obtain ⟨cq3, kq3, q3a, q3b, q3c⟩ := isOf hZ e2 E_b1
  obtain ⟨_, _, ⟨T3, L3, k3, n3⟩, -, X3, ⟨Lc3, hQ3, l3, y3, z3⟩, st3⟩ := X2.virtualBack hx (y := (⟨"com/example/libhorn/libhorn/measures/Ratio", "value", "()D"⟩ : MethodName)) (z := (⟨"com/example/libhorn/libhorn/measures/Ratio", "value", "()D"⟩ : MethodName)) hown (mvT hZ (hw _ (List.mem_of_getElem? (i := 18) rfl))) (mvT hZ (hw _ (List.mem_of_getElem? (i := 19) rfl))) (notFace_of_selects (args := #[]) (mvT hZ (hw _ (List.mem_of_getElem? (i := 21) rfl)))) (mvT hZ (hw _ (List.mem_of_getElem? (i := 21) rfl))) (mvT hZ (hw _ (List.mem_of_getElem? (i := 20) rfl))) (by decide) (backOf (W := 0) (rm4z l Z aw hw [] b1 h2 n0 Zs_2 F_denominator_b1) hZ (hw _ (List.mem_of_getElem? (i := 22) rfl)) (hw _ (List.mem_of_getElem? (i := 2) rfl)) (by decide) (by decide)) q3a q3c (g := (mkF m 9 #[.val (.long q0), .second, .val (.long q1), .second, .val (.int p2), .val (.int p3), .unset, .unset, .unset, .unset, .unset, .unset, .unset, .unset, .unset, .unset, .unset, .unset, .unset, .unset, .unset, .unset, .unset, .unset, .unset] [(.ref b1)])) rfl (by rw [hml]; rfl) (Steps.refl _) (argsL := []) (rest := []) (lenOf pd_2 rfl) rfl (by show 2 * 0 + _ ≤ _; exact Nat.le_of_eq rfl) (hb hby at_9) (fun _ _ => ⟨rfl, e2, (by decide : 1 + 0 ≤ _), (by decide : 2 + 0 ≤ _)⟩)
  dsimp only [Pt.U, Pt.locs, Pt.cells, Pt.slots] at X3 l3 y3 z3 st3 hQ3
  rw [l3, y3, z3] at X3
  obtain ⟨rfl, Nq3, e3⟩ := hQ3
  have N3 := Fr.app N2 Nq3
  replace e3 : T3.heap = h2 := e3
  refine own_of st3 ?_
  show OwnEnds p.tables e below _ (T3.setTop (mkF m 12 #[.val (.long q0), .second, .val (.long q1), .second, .val (.int p2), .val (.int p3), .unset, .unset, .unset, .unset, .unset, .unset, .unset, .unset, .unset, .unset, .unset, .unset, .unset, .unset, .unset, .unset, .unset, .unset, .unset] [(.double (9221120237041090560 : UInt64))]))
  refine own_via (fun t k => XS.dstore X3.here hx rfl (hb hby at_12) rfl (l' := #[.val (.long q0), .second, .val (.long q1), .second, .val (.int p2), .val (.int p3), .val (.double (9221120237041090560 : UInt64)), .second, .unset, .unset, .unset, .unset, .unset, .unset, .unset, .unset, .unset, .unset, .unset, .unset, .unset, .unset, .unset, .unset, .unset]) rfl k) ?_
  show OwnEnds p.tables e below _ (T3.setTop (mkF m 14 #[.val (.long q0), .second, .val (.long q1), .second, .val (.int p2), .val (.int p3), .val (.double (9221120237041090560 : UInt64)), .second, .unset, .unset, .unset, .unset, .unset, .unset, .unset, .unset, .unset, .unset, .unset, .unset, .unset, .unset, .unset, .unset, .unset] []))
  refine own_via (fun t k => XS.dload X3.here hx rfl (hb hby at_14) rfl k) ?_
  show OwnEnds p.tables e below _ (T3.setTop (mkF m 16 #[.val (.long q0), .second, .val (.long q1), .second, .val (.int p2), .val (.int p3), .val (.double (9221120237041090560 : UInt64)), .second, .unset, .unset, .unset, .unset, .unset, .unset, .unset, .unset, .unset, .unset, .unset, .unset, .unset, .unset, .unset, .unset, .unset] [(.double (9221120237041090560 : UInt64))]))
  refine own_via (fun t k => XS.dload X3.here hx rfl (hb hby at_16) rfl k) ?_
  show OwnEnds p.tables e below _ (T3.setTop (mkF m 18 #[.val (.long q0), .second, .val (.long q1), .second, .val (.int p2), .val (.int p3), .val (.double (9221120237041090560 : UInt64)), .second, .unset, .unset, .unset, .unset, .unset, .unset, .unset, .unset, .unset, .unset, .unset, .unset, .unset, .unset, .unset, .unset, .unset] [(.double (9221120237041090560 : UInt64)), (.double (9221120237041090560 : UInt64))]))
  refine own_via (fun t k => XS.dcmpS X3.here hx rfl (hb hby at_18) rfl rfl k) ?_
  show OwnEnds p.tables e below _ (T3.setTop (mkF m 19 #[.val (.long q0), .second, .val (.long q1), .second, .val (.int p2), .val (.int p3), .val (.double (9221120237041090560 : UInt64)), .second, .unset, .unset, .unset, .unset, .unset, .unset, .unset, .unset, .unset, .unset, .unset, .unset, .unset, .unset, .unset, .unset, .unset] [(.int (cmpValue (FP.dcmp (9221120237041090560 : UInt64) (9221120237041090560 : UInt64)) .l))]))
  have hc19_4 : ¬ ((cmpValue (FP.dcmp (9221120237041090560 : UInt64) (9221120237041090560 : UInt64)) .l) = (0 : Int32)) := by decide +kernel
  refine own_via (fun t k => XS.ifNo X3.here hx rfl (hb hby at_19) rfl ((if0 _ _).trans (feq hc19_4).1) k) ?_
  show OwnEnds p.tables e below _ (T3.setTop (mkF m 22 #[.val (.long q0), .second, .val (.long q1), .second, .val (.int p2), .val (.int p3), .val (.double (9221120237041090560 : UInt64)), .second, .unset, .unset, .unset, .unset, .unset, .unset, .unset, .unset, .unset, .unset, .unset, .unset, .unset, .unset, .unset, .unset, .unset] []))
  refine own_via (fun t k => XS.iconst X3.here hx rfl (hb hby at_22) k) ?_
  show OwnEnds p.tables e below _ (T3.setTop (mkF m 23 #[.val (.long q0), .second, .val (.long q1), .second, .val (.int p2), .val (.int p3), .val (.double (9221120237041090560 : UInt64)), .second, .unset, .unset, .unset, .unset, .unset, .unset, .unset, .unset, .unset, .unset, .unset, .unset, .unset, .unset, .unset, .unset, .unset] [(.int (1 : Int32))]))
  refine own_via (fun t k => XS.goto X3.here hx rfl (pc0 := 23) (pc' := 27) rfl (hb hby at_23) (by decide) (by decide) k) ?_
  show OwnEnds p.tables e below _ (T3.setTop (mkF m 27 #[.val (.long q0), .second, .val (.long q1), .second, .val (.int p2), .val (.int p3), .val (.double (9221120237041090560 : UInt64)), .second, .unset, .unset, .unset, .unset, .unset, .unset, .unset, .unset, .unset, .unset, .unset, .unset, .unset, .unset, .unset, .unset, .unset] [(.int (1 : Int32))]))
  refine own_via (fun t k => XS.istore X3.here hx rfl (hb hby at_27) rfl (l' := #[.val (.long q0), .second, .val (.long q1), .second, .val (.int p2), .val (.int p3), .val (.double (9221120237041090560 : UInt64)), .second, .val (.int (1 : Int32)), .unset, .unset, .unset, .unset, .unset, .unset, .unset, .unset, .unset, .unset, .unset, .unset, .unset, .unset, .unset, .unset]) rfl k) ?_
  show OwnEnds p.tables e below _ (T3.setTop (mkF m 29 #[.val (.long q0), .second, .val (.long q1), .second, .val (.int p2), .val (.int p3), .val (.double (9221120237041090560 : UInt64)), .second, .val (.int (1 : Int32)), .unset, .unset, .unset, .unset, .unset, .unset, .unset, .unset, .unset, .unset, .unset, .unset, .unset, .unset, .unset, .unset] []))
  refine own_via (fun t k => XS.lloadN X3.here hx rfl (hb hby at_29) rfl k) ?_
  show OwnEnds p.tables e below _ (T3.setTop (mkF m 30 #[.val (.long q0), .second, .val (.long q1), .second, .val (.int p2), .val (.int p3), .val (.double (9221120237041090560 : UInt64)), .second, .val (.int (1 : Int32)), .unset, .unset, .unset, .unset, .unset, .unset, .unset, .unset, .unset, .unset, .unset, .unset, .unset, .unset, .unset, .unset] [(.long q1)]))
  refine own_via (fun t k => XS.lconst X3.here hx rfl (hb hby at_30) k) ?_
  show OwnEnds p.tables e below _ (T3.setTop (mkF m 31 #[.val (.long q0), .second, .val (.long q1), .second, .val (.int p2), .val (.int p3), .val (.double (9221120237041090560 : UInt64)), .second, .val (.int (1 : Int32)), .unset, .unset, .unset, .unset, .unset, .unset, .unset, .unset, .unset, .unset, .unset, .unset, .unset, .unset, .unset, .unset] [(.long (0 : Int64)), (.long q1)]))
  refine own_via (fun t k => XS.lcmp X3.here hx rfl (hb hby at_31) rfl k) ?_
  show OwnEnds p.tables e below _ (T3.setTop (mkF m 32 #[.val (.long q0), .second, .val (.long q1), .second, .val (.int p2), .val (.int p3), .val (.double (9221120237041090560 : UInt64)), .second, .val (.int (1 : Int32)), .unset, .unset, .unset, .unset, .unset, .unset, .unset, .unset, .unset, .unset, .unset, .unset, .unset, .unset, .unset, .unset] [(.int (lcmpW q1 (0 : Int64)))]))
  have J40_5 : ∀ dd : Int64, dd = (if q1 = (0 : Int64) then (1 : Int64) else q1) → OwnEnds p.tables e below (OwnQ s 24 128 (Q0 Z q0 q1 p2 p3 h0 n0)) (T3.setTop (mkF m 40 #[.val (.long q0), .second, .val (.long q1), .second, .val (.int p2), .val (.int p3), .val (.double (9221120237041090560 : UInt64)), .second, .val (.int (1 : Int32)), .unset, .unset, .unset, .unset, .unset, .unset, .unset, .unset, .unset, .unset, .unset, .unset, .unset, .unset, .unset, .unset] [(.long dd)])) := by
    intro dd h_dd
    refine own_via (fun t k => XS.lstore X3.here hx rfl (hb hby at_40) rfl (l' := #[.val (.long q0), .second, .val (.long q1), .second, .val (.int p2), .val (.int p3), .val (.double (9221120237041090560 : UInt64)), .second, .val (.int (1 : Int32)), .val (.long dd), .second, .unset, .unset, .unset, .unset, .unset, .unset, .unset, .unset, .unset, .unset, .unset, .unset, .unset, .unset]) rfl k) ?_
    show OwnEnds p.tables e below _ (T3.setTop (mkF m 42 #[.val (.long q0), .second, .val (.long q1), .second, .val (.int p2), .val (.int p3), .val (.double (9221120237041090560 : UInt64)), .second, .val (.int (1 : Int32)), .val (.long dd), .second, .unset, .unset, .unset, .unset, .unset, .unset, .unset, .unset, .unset, .unset, .unset, .unset, .unset, .unset] []))
    have hdd := own_dd h_dd
    obtain ⟨T6, h6, X6, e6, E6, A6, D6, -, st6⟩ := newO X3 hx hZ hown (hw _ (List.mem_of_getElem? (i := 0) rfl)) (hw _ (List.mem_of_getElem? (i := 1) rfl)) (hw _ (List.mem_of_getElem? (i := 2) rfl)) e3 (g := (mkF m 42 #[.val (.long q0), .second, .val (.long q1), .second, .val (.int p2), .val (.int p3), .val (.double (9221120237041090560 : UInt64)), .second, .val (.int (1 : Int32)), .val (.long dd), .second, .unset, .unset, .unset, .unset, .unset, .unset, .unset, .unset, .unset, .unset, .unset, .unset, .unset, .unset] [])) rfl (hb hby at_42) (by decide) (by decide)
    obtain ⟨b6, g6⟩ : ∃ z, z = h2.size := ⟨_, rfl⟩
    rw [← g6] at A6 D6 st6
    have ne_b1_b6 : b1 ≠ b6 := Nat.ne_of_lt (Nat.lt_of_lt_of_le E_b1.lt (Nat.le_of_eq g6.symm))
    have g_b6 : n0 ≤ b6 := Nat.le_trans Zs_2 (Nat.le_of_eq g6.symm)
    have Zs_6 : n0 ≤ _ := Nat.le_trans Zs_2 E6.1
    replace E_b1 := E_b1.ext E6
    replace F_numerator_b1 := F_numerator_b1.ext E6
    replace F_denominator_b1 := F_denominator_b1.ext E6
    have E_b6 := A6
    have F_numerator_b6 : Fld Z h6 b6 "com/example/libhorn/libhorn/measures/Ratio" "numerator" "J" (.long (0 : Int64)) := D6 (Or.inr (hw _ (List.mem_of_getElem? (i := 15) rfl))) (ty := .long) (by decide)
    have F_denominator_b6 : Fld Z h6 b6 "com/example/libhorn/libhorn/measures/Ratio" "denominator" "J" (.long (0 : Int64)) := D6 (Or.inr (hw _ (List.mem_of_getElem? (i := 17) rfl))) (ty := .long) (by decide)
    refine own_via st6 ?_
    show OwnEnds p.tables e below _ (T6.setTop (mkF m 45 #[.val (.long q0), .second, .val (.long q1), .second, .val (.int p2), .val (.int p3), .val (.double (9221120237041090560 : UInt64)), .second, .val (.int (1 : Int32)), .val (.long dd), .second, .unset, .unset, .unset, .unset, .unset, .unset, .unset, .unset, .unset, .unset, .unset, .unset, .unset, .unset] [(.ref b6)]))
    refine own_via (fun t k => XS.dup X6.here hx rfl (hb hby at_45) rfl rfl k) ?_
    show OwnEnds p.tables e below _ (T6.setTop (mkF m 46 #[.val (.long q0), .second, .val (.long q1), .second, .val (.int p2), .val (.int p3), .val (.double (9221120237041090560 : UInt64)), .second, .val (.int (1 : Int32)), .val (.long dd), .second, .unset, .unset, .unset, .unset, .unset, .unset, .unset, .unset, .unset, .unset, .unset, .unset, .unset, .unset] [(.ref b6), (.ref b6)]))
    refine own_via (fun t k => XS.lloadN X6.here hx rfl (hb hby at_46) rfl k) ?_
    show OwnEnds p.tables e below _ (T6.setTop (mkF m 47 #[.val (.long q0), .second, .val (.long q1), .second, .val (.int p2), .val (.int p3), .val (.double (9221120237041090560 : UInt64)), .second, .val (.int (1 : Int32)), .val (.long dd), .second, .unset, .unset, .unset, .unset, .unset, .unset, .unset, .unset, .unset, .unset, .unset, .unset, .unset, .unset] [(.long q0), (.ref b6), (.ref b6)]))
    refine own_via (fun t k => XS.lload X6.here hx rfl (hb hby at_47) rfl k) ?_
    show OwnEnds p.tables e below _ (T6.setTop (mkF m 49 #[.val (.long q0), .second, .val (.long q1), .second, .val (.int p2), .val (.int p3), .val (.double (9221120237041090560 : UInt64)), .second, .val (.int (1 : Int32)), .val (.long dd), .second, .unset, .unset, .unset, .unset, .unset, .unset, .unset, .unset, .unset, .unset, .unset, .unset, .unset, .unset] [(.long dd), (.long q0), (.ref b6), (.ref b6)]))
    obtain ⟨_, _, ⟨T7, L7, k7, n7⟩, -, X7, ⟨Lc7, hQ7, l7, y7, z7⟩, st7⟩ := X6.specialBack hx (y := (⟨"com/example/libhorn/libhorn/measures/Ratio", "<init>", "(JJ)V"⟩ : MethodName)) rfl hown (mvT hZ (hw _ (List.mem_of_getElem? (i := 3) rfl))) (mvT hZ (hw _ (List.mem_of_getElem? (i := 4) rfl))) (mvT hZ (hw _ (List.mem_of_getElem? (i := 5) rfl))) (by decide) (backOf (W := 1) (rm1 l Z aw hw [] b6 q0 dd h6 n0 Zs_6 E_b6 F_numerator_b6 F_denominator_b6 g_b6) hZ (hw _ (List.mem_of_getElem? (i := 5) rfl)) (hw _ (List.mem_of_getElem? (i := 2) rfl)) (by decide) (by decide)) (g := (mkF m 49 #[.val (.long q0), .second, .val (.long q1), .second, .val (.int p2), .val (.int p3), .val (.double (9221120237041090560 : UInt64)), .second, .val (.int (1 : Int32)), .val (.long dd), .second, .unset, .unset, .unset, .unset, .unset, .unset, .unset, .unset, .unset, .unset, .unset, .unset, .unset, .unset] [(.long dd), (.long q0), (.ref b6), (.ref b6)])) rfl (by rw [hml]; rfl) (Steps.refl _) (a := b6) (argsL := [(.long q0), (.long dd)]) (rest := [(.ref b6)]) (lenOf pd_1 rfl) rfl (by show 2 * 0 + _ ≤ _; exact Nat.le_of_eq rfl) (hb hby at_49) (fun _ _ => ⟨rfl, e6, (by decide : 2 + 0 ≤ _), (by decide : 4 + 0 ≤ _)⟩)
    dsimp only [Pt.U, Pt.locs, Pt.cells, Pt.slots] at X7 l7 y7 z7 st7 hQ7
    rw [l7, y7, z7] at X7
    obtain ⟨h7, e7⟩ : ∃ z, T7.heap = z := ⟨_, rfl⟩
    rw [e7] at hQ7
    obtain ⟨rfl, Nq7, K7, Y7_0, Y7_1, Y7_2⟩ := hQ7
    have N7 := Fr.app N3 Nq7
    replace E_b1 := E_b1.keep K7
    replace F_numerator_b1 := F_numerator_b1.keep K7 (ninS ne_b1_b6 nin0)
    replace F_denominator_b1 := F_denominator_b1.keep K7 (ninS ne_b1_b6 nin0)
    replace E_b6 := E_b6.keep K7
    have F_numerator_b6 : Fld Z h7 b6 "com/example/libhorn/libhorn/measures/Ratio" "numerator" "J" (.long q0) := Y7_1
    have F_denominator_b6 : Fld Z h7 b6 "com/example/libhorn/libhorn/measures/Ratio" "denominator" "J" (.long dd) := Y7_2
    have Zs_7 : n0 ≤ _ := Nat.le_trans Zs_6 K7.1
    refine own_of st7 ?_
    show OwnEnds p.tables e below _ (T7.setTop (mkF m 52 #[.val (.long q0), .second, .val (.long q1), .second, .val (.int p2), .val (.int p3), .val (.double (9221120237041090560 : UInt64)), .second, .val (.int (1 : Int32)), .val (.long dd), .second, .unset, .unset, .unset, .unset, .unset, .unset, .unset, .unset, .unset, .unset, .unset, .unset, .unset, .unset] [(.ref b6)]))
    obtain ⟨cq8, kq8, q8a, q8b, q8c⟩ := isOf hZ e7 E_b6
    obtain ⟨_, _, ⟨T8, L8, k8, n8⟩, -, X8, ⟨Lc8, hQ8, l8, y8, z8⟩, st8⟩ := X7.virtualBack hx (y := (⟨"com/example/libhorn/libhorn/measures/Ratio", "value", "()D"⟩ : MethodName)) (z := (⟨"com/example/libhorn/libhorn/measures/Ratio", "value", "()D"⟩ : MethodName)) hown (mvT hZ (hw _ (List.mem_of_getElem? (i := 18) rfl))) (mvT hZ (hw _ (List.mem_of_getElem? (i := 19) rfl))) (notFace_of_selects (args := #[]) (mvT hZ (hw _ (List.mem_of_getElem? (i := 21) rfl)))) (mvT hZ (hw _ (List.mem_of_getElem? (i := 21) rfl))) (mvT hZ (hw _ (List.mem_of_getElem? (i := 20) rfl))) (by decide) (backOf (W := 0) (rm4q l Z aw hw [] b6 q0 dd h7 n0 Zs_7 F_numerator_b6 F_denominator_b6 hdd) hZ (hw _ (List.mem_of_getElem? (i := 22) rfl)) (hw _ (List.mem_of_getElem? (i := 2) rfl)) (by decide) (by decide)) q8a q8c (g := (mkF m 52 #[.val (.long q0), .second, .val (.long q1), .second, .val (.int p2), .val (.int p3), .val (.double (9221120237041090560 : UInt64)), .second, .val (.int (1 : Int32)), .val (.long dd), .second, .unset, .unset, .unset, .unset, .unset, .unset, .unset, .unset, .unset, .unset, .unset, .unset, .unset, .unset] [(.ref b6)])) rfl (by rw [hml]; rfl) (Steps.refl _) (argsL := []) (rest := []) (lenOf pd_2 rfl) rfl (by show 2 * 0 + _ ≤ _; exact Nat.le_of_eq rfl) (hb hby at_52) (fun _ _ => ⟨rfl, e7, (by decide : 2 + 0 ≤ _), (by decide : 4 + 0 ≤ _)⟩)
    dsimp only [Pt.U, Pt.locs, Pt.cells, Pt.slots] at X8 l8 y8 z8 st8 hQ8
    rw [l8, y8, z8] at X8
    obtain ⟨rfl, Nq8, e8⟩ := hQ8
    have N8 := Fr.app N7 Nq8
    replace e8 : T8.heap = h7 := e8
    refine own_of st8 ?_
    show OwnEnds p.tables e below _ (T8.setTop (mkF m 55 #[.val (.long q0), .second, .val (.long q1), .second, .val (.int p2), .val (.int p3), .val (.double (9221120237041090560 : UInt64)), .second, .val (.int (1 : Int32)), .val (.long dd), .second, .unset, .unset, .unset, .unset, .unset, .unset, .unset, .unset, .unset, .unset, .unset, .unset, .unset, .unset] [(.double (FP.ddiv (FP.l2d q0) (FP.l2d dd)))]))
    refine own_via (fun t k => XS.dstore X8.here hx rfl (hb hby at_55) rfl (l' := #[.val (.long q0), .second, .val (.long q1), .second, .val (.int p2), .val (.int p3), .val (.double (9221120237041090560 : UInt64)), .second, .val (.int (1 : Int32)), .val (.long dd), .second, .val (.double (FP.ddiv (FP.l2d q0) (FP.l2d dd))), .second, .unset, .unset, .unset, .unset, .unset, .unset, .unset, .unset, .unset, .unset, .unset, .unset]) rfl k) ?_
    show OwnEnds p.tables e below _ (T8.setTop (mkF m 57 #[.val (.long q0), .second, .val (.long q1), .second, .val (.int p2), .val (.int p3), .val (.double (9221120237041090560 : UInt64)), .second, .val (.int (1 : Int32)), .val (.long dd), .second, .val (.double (FP.ddiv (FP.l2d q0) (FP.l2d dd))), .second, .unset, .unset, .unset, .unset, .unset, .unset, .unset, .unset, .unset, .unset, .unset, .unset] []))
    have hvv := own_div_nn (n := q0) hdd
    refine own_via (fun t k => XS.dload X8.here hx rfl (hb hby at_57) rfl k) ?_
    show OwnEnds p.tables e below _ (T8.setTop (mkF m 59 #[.val (.long q0), .second, .val (.long q1), .second, .val (.int p2), .val (.int p3), .val (.double (9221120237041090560 : UInt64)), .second, .val (.int (1 : Int32)), .val (.long dd), .second, .val (.double (FP.ddiv (FP.l2d q0) (FP.l2d dd))), .second, .unset, .unset, .unset, .unset, .unset, .unset, .unset, .unset, .unset, .unset, .unset, .unset] [(.double (FP.ddiv (FP.l2d q0) (FP.l2d dd)))]))
    refine own_via (fun t k => XS.dload X8.here hx rfl (hb hby at_59) rfl k) ?_
    show OwnEnds p.tables e below _ (T8.setTop (mkF m 61 #[.val (.long q0), .second, .val (.long q1), .second, .val (.int p2), .val (.int p3), .val (.double (9221120237041090560 : UInt64)), .second, .val (.int (1 : Int32)), .val (.long dd), .second, .val (.double (FP.ddiv (FP.l2d q0) (FP.l2d dd))), .second, .unset, .unset, .unset, .unset, .unset, .unset, .unset, .unset, .unset, .unset, .unset, .unset] [(.double (FP.ddiv (FP.l2d q0) (FP.l2d dd))), (.double (FP.ddiv (FP.l2d q0) (FP.l2d dd)))]))
    refine own_via (fun t k => XS.dcmpS X8.here hx rfl (hb hby at_61) rfl rfl k) ?_
    show OwnEnds p.tables e below _ (T8.setTop (mkF m 62 #[.val (.long q0), .second, .val (.long q1), .second, .val (.int p2), .val (.int p3), .val (.double (9221120237041090560 : UInt64)), .second, .val (.int (1 : Int32)), .val (.long dd), .second, .val (.double (FP.ddiv (FP.l2d q0) (FP.l2d dd))), .second, .unset, .unset, .unset, .unset, .unset, .unset, .unset, .unset, .unset, .unset, .unset, .unset] [(.int (cmpValue (FP.dcmp (FP.ddiv (FP.l2d q0) (FP.l2d dd)) (FP.ddiv (FP.l2d q0) (FP.l2d dd))) .l))]))
    have hc62_9 : (cmpValue (FP.dcmp (FP.ddiv (FP.l2d q0) (FP.l2d dd)) (FP.ddiv (FP.l2d q0) (FP.l2d dd))) .l) = (0 : Int32) := own_cmp_eq (Jvm.FP.Core.dcmp_refl hvv)
    refine own_via (fun t k => XS.ifNo X8.here hx rfl (hb hby at_62) rfl ((if0 _ _).trans (teq hc62_9).2) k) ?_
    show OwnEnds p.tables e below _ (T8.setTop (mkF m 65 #[.val (.long q0), .second, .val (.long q1), .second, .val (.int p2), .val (.int p3), .val (.double (9221120237041090560 : UInt64)), .second, .val (.int (1 : Int32)), .val (.long dd), .second, .val (.double (FP.ddiv (FP.l2d q0) (FP.l2d dd))), .second, .unset, .unset, .unset, .unset, .unset, .unset, .unset, .unset, .unset, .unset, .unset, .unset] []))
    refine own_via (fun t k => XS.iconst X8.here hx rfl (hb hby at_65) k) ?_
    show OwnEnds p.tables e below _ (T8.setTop (mkF m 66 #[.val (.long q0), .second, .val (.long q1), .second, .val (.int p2), .val (.int p3), .val (.double (9221120237041090560 : UInt64)), .second, .val (.int (1 : Int32)), .val (.long dd), .second, .val (.double (FP.ddiv (FP.l2d q0) (FP.l2d dd))), .second, .unset, .unset, .unset, .unset, .unset, .unset, .unset, .unset, .unset, .unset, .unset, .unset] [(.int (1 : Int32))]))
    refine own_via (fun t k => XS.goto X8.here hx rfl (pc0 := 66) (pc' := 70) rfl (hb hby at_66) (by decide) (by decide) k) ?_
    show OwnEnds p.tables e below _ (T8.setTop (mkF m 70 #[.val (.long q0), .second, .val (.long q1), .second, .val (.int p2), .val (.int p3), .val (.double (9221120237041090560 : UInt64)), .second, .val (.int (1 : Int32)), .val (.long dd), .second, .val (.double (FP.ddiv (FP.l2d q0) (FP.l2d dd))), .second, .unset, .unset, .unset, .unset, .unset, .unset, .unset, .unset, .unset, .unset, .unset, .unset] [(.int (1 : Int32))]))
    refine own_via (fun t k => XS.istore X8.here hx rfl (hb hby at_70) rfl (l' := #[.val (.long q0), .second, .val (.long q1), .second, .val (.int p2), .val (.int p3), .val (.double (9221120237041090560 : UInt64)), .second, .val (.int (1 : Int32)), .val (.long dd), .second, .val (.double (FP.ddiv (FP.l2d q0) (FP.l2d dd))), .second, .val (.int (1 : Int32)), .unset, .unset, .unset, .unset, .unset, .unset, .unset, .unset, .unset, .unset, .unset]) rfl k) ?_
    show OwnEnds p.tables e below _ (T8.setTop (mkF m 72 #[.val (.long q0), .second, .val (.long q1), .second, .val (.int p2), .val (.int p3), .val (.double (9221120237041090560 : UInt64)), .second, .val (.int (1 : Int32)), .val (.long dd), .second, .val (.double (FP.ddiv (FP.l2d q0) (FP.l2d dd))), .second, .val (.int (1 : Int32)), .unset, .unset, .unset, .unset, .unset, .unset, .unset, .unset, .unset, .unset, .unset] []))
    refine own_via (fun t k => XS.lloadN X8.here hx rfl (hb hby at_72) rfl k) ?_
    show OwnEnds p.tables e below _ (T8.setTop (mkF m 73 #[.val (.long q0), .second, .val (.long q1), .second, .val (.int p2), .val (.int p3), .val (.double (9221120237041090560 : UInt64)), .second, .val (.int (1 : Int32)), .val (.long dd), .second, .val (.double (FP.ddiv (FP.l2d q0) (FP.l2d dd))), .second, .val (.int (1 : Int32)), .unset, .unset, .unset, .unset, .unset, .unset, .unset, .unset, .unset, .unset, .unset] [(.long q0)]))
    refine own_via (X8.ldc2Long hx hown (mvT hZ (hw _ (List.mem_of_getElem? (i := 24) rfl))) (g := (mkF m 73 #[.val (.long q0), .second, .val (.long q1), .second, .val (.int p2), .val (.int p3), .val (.double (9221120237041090560 : UInt64)), .second, .val (.int (1 : Int32)), .val (.long dd), .second, .val (.double (FP.ddiv (FP.l2d q0) (FP.l2d dd))), .second, .val (.int (1 : Int32)), .unset, .unset, .unset, .unset, .unset, .unset, .unset, .unset, .unset, .unset, .unset] [(.long q0)])) rfl (hb hby at_73)) ?_
    show OwnEnds p.tables e below _ (T8.setTop (mkF m 76 #[.val (.long q0), .second, .val (.long q1), .second, .val (.int p2), .val (.int p3), .val (.double (9221120237041090560 : UInt64)), .second, .val (.int (1 : Int32)), .val (.long dd), .second, .val (.double (FP.ddiv (FP.l2d q0) (FP.l2d dd))), .second, .val (.int (1 : Int32)), .unset, .unset, .unset, .unset, .unset, .unset, .unset, .unset, .unset, .unset, .unset] [(.long (-9223372036854775808 : Int64)), (.long q0)]))
    refine own_via (fun t k => XS.lcmp X8.here hx rfl (hb hby at_76) rfl k) ?_
    show OwnEnds p.tables e below _ (T8.setTop (mkF m 77 #[.val (.long q0), .second, .val (.long q1), .second, .val (.int p2), .val (.int p3), .val (.double (9221120237041090560 : UInt64)), .second, .val (.int (1 : Int32)), .val (.long dd), .second, .val (.double (FP.ddiv (FP.l2d q0) (FP.l2d dd))), .second, .val (.int (1 : Int32)), .unset, .unset, .unset, .unset, .unset, .unset, .unset, .unset, .unset, .unset, .unset] [(.int (lcmpW q0 (-9223372036854775808 : Int64)))]))
    have J101_10 : ∀ (TJ101_10 : State) (hJ101_10 : Heap) (locsJ101_10 : List Loc), Stand p l e room_1 s m #[(.long q0), (.long q1), (.int p2), (.int p3)] below meth c TJ101_10 locsJ101_10 3 6 → TJ101_10.heap = hJ101_10 → Fr n0 locsJ101_10 → n0 ≤ hJ101_10.size → Exa Z hJ101_10 b1 "com/example/libhorn/libhorn/measures/Ratio" → Fld Z hJ101_10 b1 "com/example/libhorn/libhorn/measures/Ratio" "numerator" "J" (.long q0) → Fld Z hJ101_10 b1 "com/example/libhorn/libhorn/measures/Ratio" "denominator" "J" (.long (0 : Int64)) → Exa Z hJ101_10 b6 "com/example/libhorn/libhorn/measures/Ratio" → Fld Z hJ101_10 b6 "com/example/libhorn/libhorn/measures/Ratio" "numerator" "J" (.long q0) → Fld Z hJ101_10 b6 "com/example/libhorn/libhorn/measures/Ratio" "denominator" "J" (.long dd) → OwnEnds p.tables e below (OwnQ s 24 128 (Q0 Z q0 q1 p2 p3 h0 n0)) (TJ101_10.setTop (mkF m 101 #[.val (.long q0), .second, .val (.long q1), .second, .val (.int p2), .val (.int p3), .val (.double (9221120237041090560 : UInt64)), .second, .val (.int (1 : Int32)), .val (.long dd), .second, .val (.double (FP.ddiv (FP.l2d q0) (FP.l2d dd))), .second, .val (.int (1 : Int32)), .unset, .unset, .unset, .unset, .unset, .unset, .unset, .unset, .unset, .unset, .unset] [])) := by
      intro TJ101_10 hJ101_10 locsJ101_10 XJ101_10 eJ101_10 NJ101_10 ZsJ101_10 E_b1 F_numerator_b1 F_denominator_b1 E_b6 F_numerator_b6 F_denominator_b6
      refine own_via (fun t k => XS.iconst XJ101_10.here hx rfl (hb hby at_101) k) ?_
      show OwnEnds p.tables e below _ (TJ101_10.setTop (mkF m 102 #[.val (.long q0), .second, .val (.long q1), .second, .val (.int p2), .val (.int p3), .val (.double (9221120237041090560 : UInt64)), .second, .val (.int (1 : Int32)), .val (.long dd), .second, .val (.double (FP.ddiv (FP.l2d q0) (FP.l2d dd))), .second, .val (.int (1 : Int32)), .unset, .unset, .unset, .unset, .unset, .unset, .unset, .unset, .unset, .unset, .unset] [(.int (1 : Int32))]))
      refine own_via (fun t k => XS.goto XJ101_10.here hx rfl (pc0 := 102) (pc' := 106) rfl (hb hby at_102) (by decide) (by decide) k) ?_
      show OwnEnds p.tables e below _ (TJ101_10.setTop (mkF m 106 #[.val (.long q0), .second, .val (.long q1), .second, .val (.int p2), .val (.int p3), .val (.double (9221120237041090560 : UInt64)), .second, .val (.int (1 : Int32)), .val (.long dd), .second, .val (.double (FP.ddiv (FP.l2d q0) (FP.l2d dd))), .second, .val (.int (1 : Int32)), .unset, .unset, .unset, .unset, .unset, .unset, .unset, .unset, .unset, .unset, .unset] [(.int (1 : Int32))]))
      refine own_via (fun t k => XS.istore XJ101_10.here hx rfl (hb hby at_106) rfl (l' := #[.val (.long q0), .second, .val (.long q1), .second, .val (.int p2), .val (.int p3), .val (.double (9221120237041090560 : UInt64)), .second, .val (.int (1 : Int32)), .val (.long dd), .second, .val (.double (FP.ddiv (FP.l2d q0) (FP.l2d dd))), .second, .val (.int (1 : Int32)), .val (.int (1 : Int32)), .unset, .unset, .unset, .unset, .unset, .unset, .unset, .unset, .unset, .unset]) rfl k) ?_
      show OwnEnds p.tables e below _ (TJ101_10.setTop (mkF m 108 #[.val (.long q0), .second, .val (.long q1), .second, .val (.int p2), .val (.int p3), .val (.double (9221120237041090560 : UInt64)), .second, .val (.int (1 : Int32)), .val (.long dd), .second, .val (.double (FP.ddiv (FP.l2d q0) (FP.l2d dd))), .second, .val (.int (1 : Int32)), .val (.int (1 : Int32)), .unset, .unset, .unset, .unset, .unset, .unset, .unset, .unset, .unset, .unset] []))
      refine own_via (fun t k => XS.iload XJ101_10.here hx rfl (hb hby at_108) rfl k) ?_
      show OwnEnds p.tables e below _ (TJ101_10.setTop (mkF m 110 #[.val (.long q0), .second, .val (.long q1), .second, .val (.int p2), .val (.int p3), .val (.double (9221120237041090560 : UInt64)), .second, .val (.int (1 : Int32)), .val (.long dd), .second, .val (.double (FP.ddiv (FP.l2d q0) (FP.l2d dd))), .second, .val (.int (1 : Int32)), .val (.int (1 : Int32)), .unset, .unset, .unset, .unset, .unset, .unset, .unset, .unset, .unset, .unset] [(.int p2)]))
      refine own_via (fun t k => XS.bipush XJ101_10.here hx rfl (hb hby at_110) k) ?_
      show OwnEnds p.tables e below _ (TJ101_10.setTop (mkF m 112 #[.val (.long q0), .second, .val (.long q1), .second, .val (.int p2), .val (.int p3), .val (.double (9221120237041090560 : UInt64)), .second, .val (.int (1 : Int32)), .val (.long dd), .second, .val (.double (FP.ddiv (FP.l2d q0) (FP.l2d dd))), .second, .val (.int (1 : Int32)), .val (.int (1 : Int32)), .unset, .unset, .unset, .unset, .unset, .unset, .unset, .unset, .unset, .unset] [(.int (7 : Int32)), (.int p2)]))
      refine own_via (fun t k => XS.ishr XJ101_10.here hx rfl (hb hby at_112) rfl k) ?_
      show OwnEnds p.tables e below _ (TJ101_10.setTop (mkF m 113 #[.val (.long q0), .second, .val (.long q1), .second, .val (.int p2), .val (.int p3), .val (.double (9221120237041090560 : UInt64)), .second, .val (.int (1 : Int32)), .val (.long dd), .second, .val (.double (FP.ddiv (FP.l2d q0) (FP.l2d dd))), .second, .val (.int (1 : Int32)), .val (.int (1 : Int32)), .unset, .unset, .unset, .unset, .unset, .unset, .unset, .unset, .unset, .unset] [(.int (p2 >>> ((7 : Int32) &&& 31)))]))
      refine own_via (fun t k => XS.i2l XJ101_10.here hx rfl (hb hby at_113) rfl k) ?_
      show OwnEnds p.tables e below _ (TJ101_10.setTop (mkF m 114 #[.val (.long q0), .second, .val (.long q1), .second, .val (.int p2), .val (.int p3), .val (.double (9221120237041090560 : UInt64)), .second, .val (.int (1 : Int32)), .val (.long dd), .second, .val (.double (FP.ddiv (FP.l2d q0) (FP.l2d dd))), .second, .val (.int (1 : Int32)), .val (.int (1 : Int32)), .unset, .unset, .unset, .unset, .unset, .unset, .unset, .unset, .unset, .unset] [(.long ((p2 >>> ((7 : Int32) &&& 31)).toInt64))]))
      obtain ⟨qv, h_qv⟩ : ∃ z, z = ((p2 >>> ((7 : Int32) &&& 31)).toInt64) := ⟨_, rfl⟩
      rw [← h_qv]
      refine own_via (fun t k => XS.lstore XJ101_10.here hx rfl (hb hby at_114) rfl (l' := #[.val (.long q0), .second, .val (.long q1), .second, .val (.int p2), .val (.int p3), .val (.double (9221120237041090560 : UInt64)), .second, .val (.int (1 : Int32)), .val (.long dd), .second, .val (.double (FP.ddiv (FP.l2d q0) (FP.l2d dd))), .second, .val (.int (1 : Int32)), .val (.int (1 : Int32)), .val (.long qv), .second, .unset, .unset, .unset, .unset, .unset, .unset, .unset, .unset]) rfl k) ?_
      show OwnEnds p.tables e below _ (TJ101_10.setTop (mkF m 116 #[.val (.long q0), .second, .val (.long q1), .second, .val (.int p2), .val (.int p3), .val (.double (9221120237041090560 : UInt64)), .second, .val (.int (1 : Int32)), .val (.long dd), .second, .val (.double (FP.ddiv (FP.l2d q0) (FP.l2d dd))), .second, .val (.int (1 : Int32)), .val (.int (1 : Int32)), .val (.long qv), .second, .unset, .unset, .unset, .unset, .unset, .unset, .unset, .unset] []))
      have hqv := own_sm h_qv
      refine own_via (fun t k => XS.iload XJ101_10.here hx rfl (hb hby at_116) rfl k) ?_
      show OwnEnds p.tables e below _ (TJ101_10.setTop (mkF m 118 #[.val (.long q0), .second, .val (.long q1), .second, .val (.int p2), .val (.int p3), .val (.double (9221120237041090560 : UInt64)), .second, .val (.int (1 : Int32)), .val (.long dd), .second, .val (.double (FP.ddiv (FP.l2d q0) (FP.l2d dd))), .second, .val (.int (1 : Int32)), .val (.int (1 : Int32)), .val (.long qv), .second, .unset, .unset, .unset, .unset, .unset, .unset, .unset, .unset] [(.int p3)]))
      refine own_via (fun t k => XS.bipush XJ101_10.here hx rfl (hb hby at_118) k) ?_
      show OwnEnds p.tables e below _ (TJ101_10.setTop (mkF m 120 #[.val (.long q0), .second, .val (.long q1), .second, .val (.int p2), .val (.int p3), .val (.double (9221120237041090560 : UInt64)), .second, .val (.int (1 : Int32)), .val (.long dd), .second, .val (.double (FP.ddiv (FP.l2d q0) (FP.l2d dd))), .second, .val (.int (1 : Int32)), .val (.int (1 : Int32)), .val (.long qv), .second, .unset, .unset, .unset, .unset, .unset, .unset, .unset, .unset] [(.int (7 : Int32)), (.int p3)]))
      refine own_via (fun t k => XS.ishr XJ101_10.here hx rfl (hb hby at_120) rfl k) ?_
      show OwnEnds p.tables e below _ (TJ101_10.setTop (mkF m 121 #[.val (.long q0), .second, .val (.long q1), .second, .val (.int p2), .val (.int p3), .val (.double (9221120237041090560 : UInt64)), .second, .val (.int (1 : Int32)), .val (.long dd), .second, .val (.double (FP.ddiv (FP.l2d q0) (FP.l2d dd))), .second, .val (.int (1 : Int32)), .val (.int (1 : Int32)), .val (.long qv), .second, .unset, .unset, .unset, .unset, .unset, .unset, .unset, .unset] [(.int (p3 >>> ((7 : Int32) &&& 31)))]))
      refine own_via (fun t k => XS.i2l XJ101_10.here hx rfl (hb hby at_121) rfl k) ?_
      show OwnEnds p.tables e below _ (TJ101_10.setTop (mkF m 122 #[.val (.long q0), .second, .val (.long q1), .second, .val (.int p2), .val (.int p3), .val (.double (9221120237041090560 : UInt64)), .second, .val (.int (1 : Int32)), .val (.long dd), .second, .val (.double (FP.ddiv (FP.l2d q0) (FP.l2d dd))), .second, .val (.int (1 : Int32)), .val (.int (1 : Int32)), .val (.long qv), .second, .unset, .unset, .unset, .unset, .unset, .unset, .unset, .unset] [(.long ((p3 >>> ((7 : Int32) &&& 31)).toInt64))]))
      obtain ⟨ev, h_ev⟩ : ∃ z, z = ((p3 >>> ((7 : Int32) &&& 31)).toInt64) := ⟨_, rfl⟩
      rw [← h_ev]
      refine own_via (fun t k => XS.lstore XJ101_10.here hx rfl (hb hby at_122) rfl (l' := #[.val (.long q0), .second, .val (.long q1), .second, .val (.int p2), .val (.int p3), .val (.double (9221120237041090560 : UInt64)), .second, .val (.int (1 : Int32)), .val (.long dd), .second, .val (.double (FP.ddiv (FP.l2d q0) (FP.l2d dd))), .second, .val (.int (1 : Int32)), .val (.int (1 : Int32)), .val (.long qv), .second, .val (.long ev), .second, .unset, .unset, .unset, .unset, .unset, .unset]) rfl k) ?_
      show OwnEnds p.tables e below _ (TJ101_10.setTop (mkF m 124 #[.val (.long q0), .second, .val (.long q1), .second, .val (.int p2), .val (.int p3), .val (.double (9221120237041090560 : UInt64)), .second, .val (.int (1 : Int32)), .val (.long dd), .second, .val (.double (FP.ddiv (FP.l2d q0) (FP.l2d dd))), .second, .val (.int (1 : Int32)), .val (.int (1 : Int32)), .val (.long qv), .second, .val (.long ev), .second, .unset, .unset, .unset, .unset, .unset, .unset] []))
      refine own_via (fun t k => XS.lload XJ101_10.here hx rfl (hb hby at_124) rfl k) ?_
      show OwnEnds p.tables e below _ (TJ101_10.setTop (mkF m 126 #[.val (.long q0), .second, .val (.long q1), .second, .val (.int p2), .val (.int p3), .val (.double (9221120237041090560 : UInt64)), .second, .val (.int (1 : Int32)), .val (.long dd), .second, .val (.double (FP.ddiv (FP.l2d q0) (FP.l2d dd))), .second, .val (.int (1 : Int32)), .val (.int (1 : Int32)), .val (.long qv), .second, .val (.long ev), .second, .unset, .unset, .unset, .unset, .unset, .unset] [(.long ev)]))
      refine own_via (fun t k => XS.lconst XJ101_10.here hx rfl (hb hby at_126) k) ?_
      show OwnEnds p.tables e below _ (TJ101_10.setTop (mkF m 127 #[.val (.long q0), .second, .val (.long q1), .second, .val (.int p2), .val (.int p3), .val (.double (9221120237041090560 : UInt64)), .second, .val (.int (1 : Int32)), .val (.long dd), .second, .val (.double (FP.ddiv (FP.l2d q0) (FP.l2d dd))), .second, .val (.int (1 : Int32)), .val (.int (1 : Int32)), .val (.long qv), .second, .val (.long ev), .second, .unset, .unset, .unset, .unset, .unset, .unset] [(.long (0 : Int64)), (.long ev)]))
      refine own_via (fun t k => XS.lcmp XJ101_10.here hx rfl (hb hby at_127) rfl k) ?_
      show OwnEnds p.tables e below _ (TJ101_10.setTop (mkF m 128 #[.val (.long q0), .second, .val (.long q1), .second, .val (.int p2), .val (.int p3), .val (.double (9221120237041090560 : UInt64)), .second, .val (.int (1 : Int32)), .val (.long dd), .second, .val (.double (FP.ddiv (FP.l2d q0) (FP.l2d dd))), .second, .val (.int (1 : Int32)), .val (.int (1 : Int32)), .val (.long qv), .second, .val (.long ev), .second, .unset, .unset, .unset, .unset, .unset, .unset] [(.int (lcmpW ev (0 : Int64)))]))
      have J134_11 : ∀ e2 : Int64, e2 = (if ev = (0 : Int64) then (1 : Int64) else ev) → OwnEnds p.tables e below (OwnQ s 24 128 (Q0 Z q0 q1 p2 p3 h0 n0)) (TJ101_10.setTop (mkF m 134 #[.val (.long q0), .second, .val (.long q1), .second, .val (.int p2), .val (.int p3), .val (.double (9221120237041090560 : UInt64)), .second, .val (.int (1 : Int32)), .val (.long dd), .second, .val (.double (FP.ddiv (FP.l2d q0) (FP.l2d dd))), .second, .val (.int (1 : Int32)), .val (.int (1 : Int32)), .val (.long qv), .second, .val (.long e2), .second, .unset, .unset, .unset, .unset, .unset, .unset] [])) := by
        intro e2 h_e2
        have he2 := own_sm2 (own_sm h_ev) h_e2
        have he0 := own_dd h_e2
        obtain ⟨T12, h12, X12, e12, E12, A12, D12, -, st12⟩ := newO XJ101_10 hx hZ hown (hw _ (List.mem_of_getElem? (i := 0) rfl)) (hw _ (List.mem_of_getElem? (i := 1) rfl)) (hw _ (List.mem_of_getElem? (i := 2) rfl)) eJ101_10 (g := (mkF m 134 #[.val (.long q0), .second, .val (.long q1), .second, .val (.int p2), .val (.int p3), .val (.double (9221120237041090560 : UInt64)), .second, .val (.int (1 : Int32)), .val (.long dd), .second, .val (.double (FP.ddiv (FP.l2d q0) (FP.l2d dd))), .second, .val (.int (1 : Int32)), .val (.int (1 : Int32)), .val (.long qv), .second, .val (.long e2), .second, .unset, .unset, .unset, .unset, .unset, .unset] [])) rfl (hb hby at_134) (by decide) (by decide)
        obtain ⟨b12, g12⟩ : ∃ z, z = hJ101_10.size := ⟨_, rfl⟩
        rw [← g12] at A12 D12 st12
        have ne_b1_b12 : b1 ≠ b12 := Nat.ne_of_lt (Nat.lt_of_lt_of_le E_b1.lt (Nat.le_of_eq g12.symm))
        have ne_b6_b12 : b6 ≠ b12 := Nat.ne_of_lt (Nat.lt_of_lt_of_le E_b6.lt (Nat.le_of_eq g12.symm))
        have g_b12 : n0 ≤ b12 := Nat.le_trans ZsJ101_10 (Nat.le_of_eq g12.symm)
        have Zs_12 : n0 ≤ _ := Nat.le_trans ZsJ101_10 E12.1
        replace E_b1 := E_b1.ext E12
        replace F_numerator_b1 := F_numerator_b1.ext E12
        replace F_denominator_b1 := F_denominator_b1.ext E12
        replace E_b6 := E_b6.ext E12
        replace F_numerator_b6 := F_numerator_b6.ext E12
        replace F_denominator_b6 := F_denominator_b6.ext E12
        have E_b12 := A12
        have F_numerator_b12 : Fld Z h12 b12 "com/example/libhorn/libhorn/measures/Ratio" "numerator" "J" (.long (0 : Int64)) := D12 (Or.inr (hw _ (List.mem_of_getElem? (i := 15) rfl))) (ty := .long) (by decide)
        have F_denominator_b12 : Fld Z h12 b12 "com/example/libhorn/libhorn/measures/Ratio" "denominator" "J" (.long (0 : Int64)) := D12 (Or.inr (hw _ (List.mem_of_getElem? (i := 17) rfl))) (ty := .long) (by decide)
        refine own_via st12 ?_
        show OwnEnds p.tables e below _ (T12.setTop (mkF m 137 #[.val (.long q0), .second, .val (.long q1), .second, .val (.int p2), .val (.int p3), .val (.double (9221120237041090560 : UInt64)), .second, .val (.int (1 : Int32)), .val (.long dd), .second, .val (.double (FP.ddiv (FP.l2d q0) (FP.l2d dd))), .second, .val (.int (1 : Int32)), .val (.int (1 : Int32)), .val (.long qv), .second, .val (.long e2), .second, .unset, .unset, .unset, .unset, .unset, .unset] [(.ref b12)]))
        refine own_via (fun t k => XS.dup X12.here hx rfl (hb hby at_137) rfl rfl k) ?_
        show OwnEnds p.tables e below _ (T12.setTop (mkF m 138 #[.val (.long q0), .second, .val (.long q1), .second, .val (.int p2), .val (.int p3), .val (.double (9221120237041090560 : UInt64)), .second, .val (.int (1 : Int32)), .val (.long dd), .second, .val (.double (FP.ddiv (FP.l2d q0) (FP.l2d dd))), .second, .val (.int (1 : Int32)), .val (.int (1 : Int32)), .val (.long qv), .second, .val (.long e2), .second, .unset, .unset, .unset, .unset, .unset, .unset] [(.ref b12), (.ref b12)]))
        refine own_via (fun t k => XS.lload X12.here hx rfl (hb hby at_138) rfl k) ?_
        show OwnEnds p.tables e below _ (T12.setTop (mkF m 140 #[.val (.long q0), .second, .val (.long q1), .second, .val (.int p2), .val (.int p3), .val (.double (9221120237041090560 : UInt64)), .second, .val (.int (1 : Int32)), .val (.long dd), .second, .val (.double (FP.ddiv (FP.l2d q0) (FP.l2d dd))), .second, .val (.int (1 : Int32)), .val (.int (1 : Int32)), .val (.long qv), .second, .val (.long e2), .second, .unset, .unset, .unset, .unset, .unset, .unset] [(.long qv), (.ref b12), (.ref b12)]))
        refine own_via (fun t k => XS.lload X12.here hx rfl (hb hby at_140) rfl k) ?_
        show OwnEnds p.tables e below _ (T12.setTop (mkF m 142 #[.val (.long q0), .second, .val (.long q1), .second, .val (.int p2), .val (.int p3), .val (.double (9221120237041090560 : UInt64)), .second, .val (.int (1 : Int32)), .val (.long dd), .second, .val (.double (FP.ddiv (FP.l2d q0) (FP.l2d dd))), .second, .val (.int (1 : Int32)), .val (.int (1 : Int32)), .val (.long qv), .second, .val (.long e2), .second, .unset, .unset, .unset, .unset, .unset, .unset] [(.long e2), (.long qv), (.ref b12), (.ref b12)]))
        refine own_via (fun t k => XS.lmul X12.here hx rfl (hb hby at_142) rfl k) ?_
        show OwnEnds p.tables e below _ (T12.setTop (mkF m 143 #[.val (.long q0), .second, .val (.long q1), .second, .val (.int p2), .val (.int p3), .val (.double (9221120237041090560 : UInt64)), .second, .val (.int (1 : Int32)), .val (.long dd), .second, .val (.double (FP.ddiv (FP.l2d q0) (FP.l2d dd))), .second, .val (.int (1 : Int32)), .val (.int (1 : Int32)), .val (.long qv), .second, .val (.long e2), .second, .unset, .unset, .unset, .unset, .unset, .unset] [(.long (qv * e2)), (.ref b12), (.ref b12)]))
        refine own_via (fun t k => XS.lload X12.here hx rfl (hb hby at_143) rfl k) ?_
        show OwnEnds p.tables e below _ (T12.setTop (mkF m 145 #[.val (.long q0), .second, .val (.long q1), .second, .val (.int p2), .val (.int p3), .val (.double (9221120237041090560 : UInt64)), .second, .val (.int (1 : Int32)), .val (.long dd), .second, .val (.double (FP.ddiv (FP.l2d q0) (FP.l2d dd))), .second, .val (.int (1 : Int32)), .val (.int (1 : Int32)), .val (.long qv), .second, .val (.long e2), .second, .unset, .unset, .unset, .unset, .unset, .unset] [(.long e2), (.long (qv * e2)), (.ref b12), (.ref b12)]))
        obtain ⟨_, _, ⟨T13, L13, k13, n13⟩, -, X13, ⟨Lc13, hQ13, l13, y13, z13⟩, st13⟩ := X12.specialBack hx (y := (⟨"com/example/libhorn/libhorn/measures/Ratio", "<init>", "(JJ)V"⟩ : MethodName)) rfl hown (mvT hZ (hw _ (List.mem_of_getElem? (i := 3) rfl))) (mvT hZ (hw _ (List.mem_of_getElem? (i := 4) rfl))) (mvT hZ (hw _ (List.mem_of_getElem? (i := 5) rfl))) (by decide) (backOf (W := 1) (rm1 l Z aw hw [] b12 (qv * e2) e2 h12 n0 Zs_12 E_b12 F_numerator_b12 F_denominator_b12 g_b12) hZ (hw _ (List.mem_of_getElem? (i := 5) rfl)) (hw _ (List.mem_of_getElem? (i := 2) rfl)) (by decide) (by decide)) (g := (mkF m 145 #[.val (.long q0), .second, .val (.long q1), .second, .val (.int p2), .val (.int p3), .val (.double (9221120237041090560 : UInt64)), .second, .val (.int (1 : Int32)), .val (.long dd), .second, .val (.double (FP.ddiv (FP.l2d q0) (FP.l2d dd))), .second, .val (.int (1 : Int32)), .val (.int (1 : Int32)), .val (.long qv), .second, .val (.long e2), .second, .unset, .unset, .unset, .unset, .unset, .unset] [(.long e2), (.long (qv * e2)), (.ref b12), (.ref b12)])) rfl (by rw [hml]; rfl) (Steps.refl _) (a := b12) (argsL := [(.long (qv * e2)), (.long e2)]) (rest := [(.ref b12)]) (lenOf pd_1 rfl) rfl (by show 2 * 0 + _ ≤ _; exact Nat.le_of_eq rfl) (hb hby at_145) (fun _ _ => ⟨rfl, e12, (by decide : 4 + 0 ≤ _), (by decide : 8 + 0 ≤ _)⟩)
        dsimp only [Pt.U, Pt.locs, Pt.cells, Pt.slots] at X13 l13 y13 z13 st13 hQ13
        rw [l13, y13, z13] at X13
        obtain ⟨h13, e13⟩ : ∃ z, T13.heap = z := ⟨_, rfl⟩
        rw [e13] at hQ13
        obtain ⟨rfl, Nq13, K13, Y13_0, Y13_1, Y13_2⟩ := hQ13
        have N13 := Fr.app NJ101_10 Nq13
        replace E_b1 := E_b1.keep K13
        replace F_numerator_b1 := F_numerator_b1.keep K13 (ninS ne_b1_b12 nin0)
        replace F_denominator_b1 := F_denominator_b1.keep K13 (ninS ne_b1_b12 nin0)
        replace E_b6 := E_b6.keep K13
        replace F_numerator_b6 := F_numerator_b6.keep K13 (ninS ne_b6_b12 nin0)
        replace F_denominator_b6 := F_denominator_b6.keep K13 (ninS ne_b6_b12 nin0)
        replace E_b12 := E_b12.keep K13
        have F_numerator_b12 : Fld Z h13 b12 "com/example/libhorn/libhorn/measures/Ratio" "numerator" "J" (.long (qv * e2)) := Y13_1
        have F_denominator_b12 : Fld Z h13 b12 "com/example/libhorn/libhorn/measures/Ratio" "denominator" "J" (.long e2) := Y13_2
        have Zs_13 : n0 ≤ _ := Nat.le_trans Zs_12 K13.1
        refine own_of st13 ?_
        show OwnEnds p.tables e below _ (T13.setTop (mkF m 148 #[.val (.long q0), .second, .val (.long q1), .second, .val (.int p2), .val (.int p3), .val (.double (9221120237041090560 : UInt64)), .second, .val (.int (1 : Int32)), .val (.long dd), .second, .val (.double (FP.ddiv (FP.l2d q0) (FP.l2d dd))), .second, .val (.int (1 : Int32)), .val (.int (1 : Int32)), .val (.long qv), .second, .val (.long e2), .second, .unset, .unset, .unset, .unset, .unset, .unset] [(.ref b12)]))
        obtain ⟨cq14, kq14, q14a, q14b, q14c⟩ := isOf hZ e13 E_b12
        obtain ⟨_, _, ⟨T14, L14, k14, n14⟩, -, X14, ⟨Lc14, hQ14, l14, y14, z14⟩, st14⟩ := X13.virtualBack hx (y := (⟨"com/example/libhorn/libhorn/measures/Ratio", "value", "()D"⟩ : MethodName)) (z := (⟨"com/example/libhorn/libhorn/measures/Ratio", "value", "()D"⟩ : MethodName)) hown (mvT hZ (hw _ (List.mem_of_getElem? (i := 18) rfl))) (mvT hZ (hw _ (List.mem_of_getElem? (i := 19) rfl))) (notFace_of_selects (args := #[]) (mvT hZ (hw _ (List.mem_of_getElem? (i := 21) rfl)))) (mvT hZ (hw _ (List.mem_of_getElem? (i := 21) rfl))) (mvT hZ (hw _ (List.mem_of_getElem? (i := 20) rfl))) (by decide) (backOf (W := 0) (rm4q l Z aw hw [] b12 (qv * e2) e2 h13 n0 Zs_13 F_numerator_b12 F_denominator_b12 he0) hZ (hw _ (List.mem_of_getElem? (i := 22) rfl)) (hw _ (List.mem_of_getElem? (i := 2) rfl)) (by decide) (by decide)) q14a q14c (g := (mkF m 148 #[.val (.long q0), .second, .val (.long q1), .second, .val (.int p2), .val (.int p3), .val (.double (9221120237041090560 : UInt64)), .second, .val (.int (1 : Int32)), .val (.long dd), .second, .val (.double (FP.ddiv (FP.l2d q0) (FP.l2d dd))), .second, .val (.int (1 : Int32)), .val (.int (1 : Int32)), .val (.long qv), .second, .val (.long e2), .second, .unset, .unset, .unset, .unset, .unset, .unset] [(.ref b12)])) rfl (by rw [hml]; rfl) (Steps.refl _) (argsL := []) (rest := []) (lenOf pd_2 rfl) rfl (by show 2 * 0 + _ ≤ _; exact Nat.le_of_eq rfl) (hb hby at_148) (fun _ _ => ⟨rfl, e13, (by decide : 4 + 0 ≤ _), (by decide : 8 + 0 ≤ _)⟩)
        dsimp only [Pt.U, Pt.locs, Pt.cells, Pt.slots] at X14 l14 y14 z14 st14 hQ14
        rw [l14, y14, z14] at X14
        obtain ⟨rfl, Nq14, e14⟩ := hQ14
        have N14 := Fr.app N13 Nq14
        replace e14 : T14.heap = h13 := e14
        refine own_of st14 ?_
        show OwnEnds p.tables e below _ (T14.setTop (mkF m 151 #[.val (.long q0), .second, .val (.long q1), .second, .val (.int p2), .val (.int p3), .val (.double (9221120237041090560 : UInt64)), .second, .val (.int (1 : Int32)), .val (.long dd), .second, .val (.double (FP.ddiv (FP.l2d q0) (FP.l2d dd))), .second, .val (.int (1 : Int32)), .val (.int (1 : Int32)), .val (.long qv), .second, .val (.long e2), .second, .unset, .unset, .unset, .unset, .unset, .unset] [(.double (FP.ddiv (FP.l2d (qv * e2)) (FP.l2d e2)))]))
        refine own_via (fun t k => XS.lload X14.here hx rfl (hb hby at_151) rfl k) ?_
        show OwnEnds p.tables e below _ (T14.setTop (mkF m 153 #[.val (.long q0), .second, .val (.long q1), .second, .val (.int p2), .val (.int p3), .val (.double (9221120237041090560 : UInt64)), .second, .val (.int (1 : Int32)), .val (.long dd), .second, .val (.double (FP.ddiv (FP.l2d q0) (FP.l2d dd))), .second, .val (.int (1 : Int32)), .val (.int (1 : Int32)), .val (.long qv), .second, .val (.long e2), .second, .unset, .unset, .unset, .unset, .unset, .unset] [(.long qv), (.double (FP.ddiv (FP.l2d (qv * e2)) (FP.l2d e2)))]))
        refine own_via (fun t k => XS.l2dS X14.here hx rfl (hb hby at_153) rfl rfl k) ?_
        show OwnEnds p.tables e below _ (T14.setTop (mkF m 154 #[.val (.long q0), .second, .val (.long q1), .second, .val (.int p2), .val (.int p3), .val (.double (9221120237041090560 : UInt64)), .second, .val (.int (1 : Int32)), .val (.long dd), .second, .val (.double (FP.ddiv (FP.l2d q0) (FP.l2d dd))), .second, .val (.int (1 : Int32)), .val (.int (1 : Int32)), .val (.long qv), .second, .val (.long e2), .second, .unset, .unset, .unset, .unset, .unset, .unset] [(.double (FP.l2d qv)), (.double (FP.ddiv (FP.l2d (qv * e2)) (FP.l2d e2)))]))
        refine own_via (fun t k => XS.dcmpS X14.here hx rfl (hb hby at_154) rfl rfl k) ?_
        show OwnEnds p.tables e below _ (T14.setTop (mkF m 155 #[.val (.long q0), .second, .val (.long q1), .second, .val (.int p2), .val (.int p3), .val (.double (9221120237041090560 : UInt64)), .second, .val (.int (1 : Int32)), .val (.long dd), .second, .val (.double (FP.ddiv (FP.l2d q0) (FP.l2d dd))), .second, .val (.int (1 : Int32)), .val (.int (1 : Int32)), .val (.long qv), .second, .val (.long e2), .second, .unset, .unset, .unset, .unset, .unset, .unset] [(.int (cmpValue (FP.dcmp (FP.ddiv (FP.l2d (qv * e2)) (FP.l2d e2)) (FP.l2d qv)) .l))]))
        have hc155_15 : (cmpValue (FP.dcmp (FP.ddiv (FP.l2d (qv * e2)) (FP.l2d e2)) (FP.l2d qv)) .l) = (0 : Int32) := own_cmp_eq (own_ei hqv he2 he0)
        refine own_via (fun t k => XS.ifNo X14.here hx rfl (hb hby at_155) rfl ((if0 _ _).trans (teq hc155_15).2) k) ?_
        show OwnEnds p.tables e below _ (T14.setTop (mkF m 158 #[.val (.long q0), .second, .val (.long q1), .second, .val (.int p2), .val (.int p3), .val (.double (9221120237041090560 : UInt64)), .second, .val (.int (1 : Int32)), .val (.long dd), .second, .val (.double (FP.ddiv (FP.l2d q0) (FP.l2d dd))), .second, .val (.int (1 : Int32)), .val (.int (1 : Int32)), .val (.long qv), .second, .val (.long e2), .second, .unset, .unset, .unset, .unset, .unset, .unset] []))
        refine own_via (fun t k => XS.iconst X14.here hx rfl (hb hby at_158) k) ?_
        show OwnEnds p.tables e below _ (T14.setTop (mkF m 159 #[.val (.long q0), .second, .val (.long q1), .second, .val (.int p2), .val (.int p3), .val (.double (9221120237041090560 : UInt64)), .second, .val (.int (1 : Int32)), .val (.long dd), .second, .val (.double (FP.ddiv (FP.l2d q0) (FP.l2d dd))), .second, .val (.int (1 : Int32)), .val (.int (1 : Int32)), .val (.long qv), .second, .val (.long e2), .second, .unset, .unset, .unset, .unset, .unset, .unset] [(.int (1 : Int32))]))
        refine own_via (fun t k => XS.goto X14.here hx rfl (pc0 := 159) (pc' := 163) rfl (hb hby at_159) (by decide) (by decide) k) ?_
        show OwnEnds p.tables e below _ (T14.setTop (mkF m 163 #[.val (.long q0), .second, .val (.long q1), .second, .val (.int p2), .val (.int p3), .val (.double (9221120237041090560 : UInt64)), .second, .val (.int (1 : Int32)), .val (.long dd), .second, .val (.double (FP.ddiv (FP.l2d q0) (FP.l2d dd))), .second, .val (.int (1 : Int32)), .val (.int (1 : Int32)), .val (.long qv), .second, .val (.long e2), .second, .unset, .unset, .unset, .unset, .unset, .unset] [(.int (1 : Int32))]))
        refine own_via (fun t k => XS.istore X14.here hx rfl (hb hby at_163) rfl (l' := #[.val (.long q0), .second, .val (.long q1), .second, .val (.int p2), .val (.int p3), .val (.double (9221120237041090560 : UInt64)), .second, .val (.int (1 : Int32)), .val (.long dd), .second, .val (.double (FP.ddiv (FP.l2d q0) (FP.l2d dd))), .second, .val (.int (1 : Int32)), .val (.int (1 : Int32)), .val (.long qv), .second, .val (.long e2), .second, .val (.int (1 : Int32)), .unset, .unset, .unset, .unset, .unset]) rfl k) ?_
        show OwnEnds p.tables e below _ (T14.setTop (mkF m 165 #[.val (.long q0), .second, .val (.long q1), .second, .val (.int p2), .val (.int p3), .val (.double (9221120237041090560 : UInt64)), .second, .val (.int (1 : Int32)), .val (.long dd), .second, .val (.double (FP.ddiv (FP.l2d q0) (FP.l2d dd))), .second, .val (.int (1 : Int32)), .val (.int (1 : Int32)), .val (.long qv), .second, .val (.long e2), .second, .val (.int (1 : Int32)), .unset, .unset, .unset, .unset, .unset] []))
        refine own_via (X14.ldc2Long hx hown (mvT hZ (hw _ (List.mem_of_getElem? (i := 25) rfl))) (g := (mkF m 165 #[.val (.long q0), .second, .val (.long q1), .second, .val (.int p2), .val (.int p3), .val (.double (9221120237041090560 : UInt64)), .second, .val (.int (1 : Int32)), .val (.long dd), .second, .val (.double (FP.ddiv (FP.l2d q0) (FP.l2d dd))), .second, .val (.int (1 : Int32)), .val (.int (1 : Int32)), .val (.long qv), .second, .val (.long e2), .second, .val (.int (1 : Int32)), .unset, .unset, .unset, .unset, .unset] [])) rfl (hb hby at_165)) ?_
        show OwnEnds p.tables e below _ (T14.setTop (mkF m 168 #[.val (.long q0), .second, .val (.long q1), .second, .val (.int p2), .val (.int p3), .val (.double (9221120237041090560 : UInt64)), .second, .val (.int (1 : Int32)), .val (.long dd), .second, .val (.double (FP.ddiv (FP.l2d q0) (FP.l2d dd))), .second, .val (.int (1 : Int32)), .val (.int (1 : Int32)), .val (.long qv), .second, .val (.long e2), .second, .val (.int (1 : Int32)), .unset, .unset, .unset, .unset, .unset] [(.long (2 : Int64))]))
        refine own_via (fun t k => XS.lload X14.here hx rfl (hb hby at_168) rfl k) ?_
        show OwnEnds p.tables e below _ (T14.setTop (mkF m 170 #[.val (.long q0), .second, .val (.long q1), .second, .val (.int p2), .val (.int p3), .val (.double (9221120237041090560 : UInt64)), .second, .val (.int (1 : Int32)), .val (.long dd), .second, .val (.double (FP.ddiv (FP.l2d q0) (FP.l2d dd))), .second, .val (.int (1 : Int32)), .val (.int (1 : Int32)), .val (.long qv), .second, .val (.long e2), .second, .val (.int (1 : Int32)), .unset, .unset, .unset, .unset, .unset] [(.long qv), (.long (2 : Int64))]))
        refine own_via (fun t k => XS.lmul X14.here hx rfl (hb hby at_170) rfl k) ?_
        show OwnEnds p.tables e below _ (T14.setTop (mkF m 171 #[.val (.long q0), .second, .val (.long q1), .second, .val (.int p2), .val (.int p3), .val (.double (9221120237041090560 : UInt64)), .second, .val (.int (1 : Int32)), .val (.long dd), .second, .val (.double (FP.ddiv (FP.l2d q0) (FP.l2d dd))), .second, .val (.int (1 : Int32)), .val (.int (1 : Int32)), .val (.long qv), .second, .val (.long e2), .second, .val (.int (1 : Int32)), .unset, .unset, .unset, .unset, .unset] [(.long ((2 : Int64) * qv))]))
        refine own_via (fun t k => XS.lconst X14.here hx rfl (hb hby at_171) k) ?_
        show OwnEnds p.tables e below _ (T14.setTop (mkF m 172 #[.val (.long q0), .second, .val (.long q1), .second, .val (.int p2), .val (.int p3), .val (.double (9221120237041090560 : UInt64)), .second, .val (.int (1 : Int32)), .val (.long dd), .second, .val (.double (FP.ddiv (FP.l2d q0) (FP.l2d dd))), .second, .val (.int (1 : Int32)), .val (.int (1 : Int32)), .val (.long qv), .second, .val (.long e2), .second, .val (.int (1 : Int32)), .unset, .unset, .unset, .unset, .unset] [(.long (1 : Int64)), (.long ((2 : Int64) * qv))]))
        refine own_via (fun t k => XS.ladd X14.here hx rfl (hb hby at_172) rfl k) ?_
        show OwnEnds p.tables e below _ (T14.setTop (mkF m 173 #[.val (.long q0), .second, .val (.long q1), .second, .val (.int p2), .val (.int p3), .val (.double (9221120237041090560 : UInt64)), .second, .val (.int (1 : Int32)), .val (.long dd), .second, .val (.double (FP.ddiv (FP.l2d q0) (FP.l2d dd))), .second, .val (.int (1 : Int32)), .val (.int (1 : Int32)), .val (.long qv), .second, .val (.long e2), .second, .val (.int (1 : Int32)), .unset, .unset, .unset, .unset, .unset] [(.long (((2 : Int64) * qv) + (1 : Int64)))]))
        obtain ⟨od, h_od⟩ : ∃ z, z = (((2 : Int64) * qv) + (1 : Int64)) := ⟨_, rfl⟩
        rw [← h_od]
        refine own_via (fun t k => XS.lstore X14.here hx rfl (hb hby at_173) rfl (l' := #[.val (.long q0), .second, .val (.long q1), .second, .val (.int p2), .val (.int p3), .val (.double (9221120237041090560 : UInt64)), .second, .val (.int (1 : Int32)), .val (.long dd), .second, .val (.double (FP.ddiv (FP.l2d q0) (FP.l2d dd))), .second, .val (.int (1 : Int32)), .val (.int (1 : Int32)), .val (.long qv), .second, .val (.long e2), .second, .val (.int (1 : Int32)), .val (.long od), .second, .unset, .unset, .unset]) rfl k) ?_
        show OwnEnds p.tables e below _ (T14.setTop (mkF m 175 #[.val (.long q0), .second, .val (.long q1), .second, .val (.int p2), .val (.int p3), .val (.double (9221120237041090560 : UInt64)), .second, .val (.int (1 : Int32)), .val (.long dd), .second, .val (.double (FP.ddiv (FP.l2d q0) (FP.l2d dd))), .second, .val (.int (1 : Int32)), .val (.int (1 : Int32)), .val (.long qv), .second, .val (.long e2), .second, .val (.int (1 : Int32)), .val (.long od), .second, .unset, .unset, .unset] []))
        have hod := own_od hqv h_od
        obtain ⟨T16, h16, X16, e16, E16, A16, D16, -, st16⟩ := newO X14 hx hZ hown (hw _ (List.mem_of_getElem? (i := 0) rfl)) (hw _ (List.mem_of_getElem? (i := 1) rfl)) (hw _ (List.mem_of_getElem? (i := 2) rfl)) e14 (g := (mkF m 175 #[.val (.long q0), .second, .val (.long q1), .second, .val (.int p2), .val (.int p3), .val (.double (9221120237041090560 : UInt64)), .second, .val (.int (1 : Int32)), .val (.long dd), .second, .val (.double (FP.ddiv (FP.l2d q0) (FP.l2d dd))), .second, .val (.int (1 : Int32)), .val (.int (1 : Int32)), .val (.long qv), .second, .val (.long e2), .second, .val (.int (1 : Int32)), .val (.long od), .second, .unset, .unset, .unset] [])) rfl (hb hby at_175) (by decide) (by decide)
        obtain ⟨b16, g16⟩ : ∃ z, z = h13.size := ⟨_, rfl⟩
        rw [← g16] at A16 D16 st16
        have ne_b1_b16 : b1 ≠ b16 := Nat.ne_of_lt (Nat.lt_of_lt_of_le E_b1.lt (Nat.le_of_eq g16.symm))
        have ne_b12_b16 : b12 ≠ b16 := Nat.ne_of_lt (Nat.lt_of_lt_of_le E_b12.lt (Nat.le_of_eq g16.symm))
        have ne_b6_b16 : b6 ≠ b16 := Nat.ne_of_lt (Nat.lt_of_lt_of_le E_b6.lt (Nat.le_of_eq g16.symm))
        have g_b16 : n0 ≤ b16 := Nat.le_trans Zs_13 (Nat.le_of_eq g16.symm)
        have Zs_16 : n0 ≤ _ := Nat.le_trans Zs_13 E16.1
        replace E_b1 := E_b1.ext E16
        replace F_numerator_b1 := F_numerator_b1.ext E16
        replace F_denominator_b1 := F_denominator_b1.ext E16
        replace E_b6 := E_b6.ext E16
        replace F_numerator_b6 := F_numerator_b6.ext E16
        replace F_denominator_b6 := F_denominator_b6.ext E16
        replace E_b12 := E_b12.ext E16
        replace F_numerator_b12 := F_numerator_b12.ext E16
        replace F_denominator_b12 := F_denominator_b12.ext E16
        have E_b16 := A16
        have F_numerator_b16 : Fld Z h16 b16 "com/example/libhorn/libhorn/measures/Ratio" "numerator" "J" (.long (0 : Int64)) := D16 (Or.inr (hw _ (List.mem_of_getElem? (i := 15) rfl))) (ty := .long) (by decide)
        have F_denominator_b16 : Fld Z h16 b16 "com/example/libhorn/libhorn/measures/Ratio" "denominator" "J" (.long (0 : Int64)) := D16 (Or.inr (hw _ (List.mem_of_getElem? (i := 17) rfl))) (ty := .long) (by decide)
        refine own_via st16 ?_
        show OwnEnds p.tables e below _ (T16.setTop (mkF m 178 #[.val (.long q0), .second, .val (.long q1), .second, .val (.int p2), .val (.int p3), .val (.double (9221120237041090560 : UInt64)), .second, .val (.int (1 : Int32)), .val (.long dd), .second, .val (.double (FP.ddiv (FP.l2d q0) (FP.l2d dd))), .second, .val (.int (1 : Int32)), .val (.int (1 : Int32)), .val (.long qv), .second, .val (.long e2), .second, .val (.int (1 : Int32)), .val (.long od), .second, .unset, .unset, .unset] [(.ref b16)]))
        refine own_via (fun t k => XS.dup X16.here hx rfl (hb hby at_178) rfl rfl k) ?_
        show OwnEnds p.tables e below _ (T16.setTop (mkF m 179 #[.val (.long q0), .second, .val (.long q1), .second, .val (.int p2), .val (.int p3), .val (.double (9221120237041090560 : UInt64)), .second, .val (.int (1 : Int32)), .val (.long dd), .second, .val (.double (FP.ddiv (FP.l2d q0) (FP.l2d dd))), .second, .val (.int (1 : Int32)), .val (.int (1 : Int32)), .val (.long qv), .second, .val (.long e2), .second, .val (.int (1 : Int32)), .val (.long od), .second, .unset, .unset, .unset] [(.ref b16), (.ref b16)]))
        refine own_via (fun t k => XS.lload X16.here hx rfl (hb hby at_179) rfl k) ?_
        show OwnEnds p.tables e below _ (T16.setTop (mkF m 181 #[.val (.long q0), .second, .val (.long q1), .second, .val (.int p2), .val (.int p3), .val (.double (9221120237041090560 : UInt64)), .second, .val (.int (1 : Int32)), .val (.long dd), .second, .val (.double (FP.ddiv (FP.l2d q0) (FP.l2d dd))), .second, .val (.int (1 : Int32)), .val (.int (1 : Int32)), .val (.long qv), .second, .val (.long e2), .second, .val (.int (1 : Int32)), .val (.long od), .second, .unset, .unset, .unset] [(.long od), (.ref b16), (.ref b16)]))
        refine own_via (X16.ldc2Long hx hown (mvT hZ (hw _ (List.mem_of_getElem? (i := 25) rfl))) (g := (mkF m 181 #[.val (.long q0), .second, .val (.long q1), .second, .val (.int p2), .val (.int p3), .val (.double (9221120237041090560 : UInt64)), .second, .val (.int (1 : Int32)), .val (.long dd), .second, .val (.double (FP.ddiv (FP.l2d q0) (FP.l2d dd))), .second, .val (.int (1 : Int32)), .val (.int (1 : Int32)), .val (.long qv), .second, .val (.long e2), .second, .val (.int (1 : Int32)), .val (.long od), .second, .unset, .unset, .unset] [(.long od), (.ref b16), (.ref b16)])) rfl (hb hby at_181)) ?_
        show OwnEnds p.tables e below _ (T16.setTop (mkF m 184 #[.val (.long q0), .second, .val (.long q1), .second, .val (.int p2), .val (.int p3), .val (.double (9221120237041090560 : UInt64)), .second, .val (.int (1 : Int32)), .val (.long dd), .second, .val (.double (FP.ddiv (FP.l2d q0) (FP.l2d dd))), .second, .val (.int (1 : Int32)), .val (.int (1 : Int32)), .val (.long qv), .second, .val (.long e2), .second, .val (.int (1 : Int32)), .val (.long od), .second, .unset, .unset, .unset] [(.long (2 : Int64)), (.long od), (.ref b16), (.ref b16)]))
        obtain ⟨_, _, ⟨T17, L17, k17, n17⟩, -, X17, ⟨Lc17, hQ17, l17, y17, z17⟩, st17⟩ := X16.specialBack hx (y := (⟨"com/example/libhorn/libhorn/measures/Ratio", "<init>", "(JJ)V"⟩ : MethodName)) rfl hown (mvT hZ (hw _ (List.mem_of_getElem? (i := 3) rfl))) (mvT hZ (hw _ (List.mem_of_getElem? (i := 4) rfl))) (mvT hZ (hw _ (List.mem_of_getElem? (i := 5) rfl))) (by decide) (backOf (W := 1) (rm1 l Z aw hw [] b16 od (2 : Int64) h16 n0 Zs_16 E_b16 F_numerator_b16 F_denominator_b16 g_b16) hZ (hw _ (List.mem_of_getElem? (i := 5) rfl)) (hw _ (List.mem_of_getElem? (i := 2) rfl)) (by decide) (by decide)) (g := (mkF m 184 #[.val (.long q0), .second, .val (.long q1), .second, .val (.int p2), .val (.int p3), .val (.double (9221120237041090560 : UInt64)), .second, .val (.int (1 : Int32)), .val (.long dd), .second, .val (.double (FP.ddiv (FP.l2d q0) (FP.l2d dd))), .second, .val (.int (1 : Int32)), .val (.int (1 : Int32)), .val (.long qv), .second, .val (.long e2), .second, .val (.int (1 : Int32)), .val (.long od), .second, .unset, .unset, .unset] [(.long (2 : Int64)), (.long od), (.ref b16), (.ref b16)])) rfl (by rw [hml]; rfl) (Steps.refl _) (a := b16) (argsL := [(.long od), (.long (2 : Int64))]) (rest := [(.ref b16)]) (lenOf pd_1 rfl) rfl (by show 2 * 0 + _ ≤ _; exact Nat.le_of_eq rfl) (hb hby at_184) (fun _ _ => ⟨rfl, e16, (by decide : 5 + 0 ≤ _), (by decide : 10 + 0 ≤ _)⟩)
        dsimp only [Pt.U, Pt.locs, Pt.cells, Pt.slots] at X17 l17 y17 z17 st17 hQ17
        rw [l17, y17, z17] at X17
        obtain ⟨h17, e17⟩ : ∃ z, T17.heap = z := ⟨_, rfl⟩
        rw [e17] at hQ17
        obtain ⟨rfl, Nq17, K17, Y17_0, Y17_1, Y17_2⟩ := hQ17
        have N17 := Fr.app N14 Nq17
        replace E_b1 := E_b1.keep K17
        replace F_numerator_b1 := F_numerator_b1.keep K17 (ninS ne_b1_b16 nin0)
        replace F_denominator_b1 := F_denominator_b1.keep K17 (ninS ne_b1_b16 nin0)
        replace E_b6 := E_b6.keep K17
        replace F_numerator_b6 := F_numerator_b6.keep K17 (ninS ne_b6_b16 nin0)
        replace F_denominator_b6 := F_denominator_b6.keep K17 (ninS ne_b6_b16 nin0)
        replace E_b12 := E_b12.keep K17
        replace F_numerator_b12 := F_numerator_b12.keep K17 (ninS ne_b12_b16 nin0)
        replace F_denominator_b12 := F_denominator_b12.keep K17 (ninS ne_b12_b16 nin0)
        replace E_b16 := E_b16.keep K17
        have F_numerator_b16 : Fld Z h17 b16 "com/example/libhorn/libhorn/measures/Ratio" "numerator" "J" (.long od) := Y17_1
        have F_denominator_b16 : Fld Z h17 b16 "com/example/libhorn/libhorn/measures/Ratio" "denominator" "J" (.long (2 : Int64)) := Y17_2
        have Zs_17 : n0 ≤ _ := Nat.le_trans Zs_16 K17.1
        refine own_of st17 ?_
        show OwnEnds p.tables e below _ (T17.setTop (mkF m 187 #[.val (.long q0), .second, .val (.long q1), .second, .val (.int p2), .val (.int p3), .val (.double (9221120237041090560 : UInt64)), .second, .val (.int (1 : Int32)), .val (.long dd), .second, .val (.double (FP.ddiv (FP.l2d q0) (FP.l2d dd))), .second, .val (.int (1 : Int32)), .val (.int (1 : Int32)), .val (.long qv), .second, .val (.long e2), .second, .val (.int (1 : Int32)), .val (.long od), .second, .unset, .unset, .unset] [(.ref b16)]))
        obtain ⟨cq18, kq18, q18a, q18b, q18c⟩ := isOf hZ e17 E_b16
        obtain ⟨_, _, ⟨T18, L18, k18, n18⟩, -, X18, ⟨Lc18, hQ18, l18, y18, z18⟩, st18⟩ := X17.virtualBack hx (y := (⟨"com/example/libhorn/libhorn/measures/Ratio", "value", "()D"⟩ : MethodName)) (z := (⟨"com/example/libhorn/libhorn/measures/Ratio", "value", "()D"⟩ : MethodName)) hown (mvT hZ (hw _ (List.mem_of_getElem? (i := 18) rfl))) (mvT hZ (hw _ (List.mem_of_getElem? (i := 19) rfl))) (notFace_of_selects (args := #[]) (mvT hZ (hw _ (List.mem_of_getElem? (i := 21) rfl)))) (mvT hZ (hw _ (List.mem_of_getElem? (i := 21) rfl))) (mvT hZ (hw _ (List.mem_of_getElem? (i := 20) rfl))) (by decide) (backOf (W := 0) (rm4q l Z aw hw [] b16 od (2 : Int64) h17 n0 Zs_17 F_numerator_b16 F_denominator_b16 (by decide)) hZ (hw _ (List.mem_of_getElem? (i := 22) rfl)) (hw _ (List.mem_of_getElem? (i := 2) rfl)) (by decide) (by decide)) q18a q18c (g := (mkF m 187 #[.val (.long q0), .second, .val (.long q1), .second, .val (.int p2), .val (.int p3), .val (.double (9221120237041090560 : UInt64)), .second, .val (.int (1 : Int32)), .val (.long dd), .second, .val (.double (FP.ddiv (FP.l2d q0) (FP.l2d dd))), .second, .val (.int (1 : Int32)), .val (.int (1 : Int32)), .val (.long qv), .second, .val (.long e2), .second, .val (.int (1 : Int32)), .val (.long od), .second, .unset, .unset, .unset] [(.ref b16)])) rfl (by rw [hml]; rfl) (Steps.refl _) (argsL := []) (rest := []) (lenOf pd_2 rfl) rfl (by show 2 * 0 + _ ≤ _; exact Nat.le_of_eq rfl) (hb hby at_187) (fun _ _ => ⟨rfl, e17, (by decide : 5 + 0 ≤ _), (by decide : 10 + 0 ≤ _)⟩)
        dsimp only [Pt.U, Pt.locs, Pt.cells, Pt.slots] at X18 l18 y18 z18 st18 hQ18
        rw [l18, y18, z18] at X18
        obtain ⟨rfl, Nq18, e18⟩ := hQ18
        have N18 := Fr.app N17 Nq18
        replace e18 : T18.heap = h17 := e18
        refine own_of st18 ?_
        show OwnEnds p.tables e below _ (T18.setTop (mkF m 190 #[.val (.long q0), .second, .val (.long q1), .second, .val (.int p2), .val (.int p3), .val (.double (9221120237041090560 : UInt64)), .second, .val (.int (1 : Int32)), .val (.long dd), .second, .val (.double (FP.ddiv (FP.l2d q0) (FP.l2d dd))), .second, .val (.int (1 : Int32)), .val (.int (1 : Int32)), .val (.long qv), .second, .val (.long e2), .second, .val (.int (1 : Int32)), .val (.long od), .second, .unset, .unset, .unset] [(.double (FP.ddiv (FP.l2d od) (FP.l2d (2 : Int64))))]))
        refine own_via (fun t k => XS.dstore X18.here hx rfl (hb hby at_190) rfl (l' := #[.val (.long q0), .second, .val (.long q1), .second, .val (.int p2), .val (.int p3), .val (.double (9221120237041090560 : UInt64)), .second, .val (.int (1 : Int32)), .val (.long dd), .second, .val (.double (FP.ddiv (FP.l2d q0) (FP.l2d dd))), .second, .val (.int (1 : Int32)), .val (.int (1 : Int32)), .val (.long qv), .second, .val (.long e2), .second, .val (.int (1 : Int32)), .val (.long od), .second, .val (.double (FP.ddiv (FP.l2d od) (FP.l2d (2 : Int64)))), .second, .unset]) rfl k) ?_
        show OwnEnds p.tables e below _ (T18.setTop (mkF m 192 #[.val (.long q0), .second, .val (.long q1), .second, .val (.int p2), .val (.int p3), .val (.double (9221120237041090560 : UInt64)), .second, .val (.int (1 : Int32)), .val (.long dd), .second, .val (.double (FP.ddiv (FP.l2d q0) (FP.l2d dd))), .second, .val (.int (1 : Int32)), .val (.int (1 : Int32)), .val (.long qv), .second, .val (.long e2), .second, .val (.int (1 : Int32)), .val (.long od), .second, .val (.double (FP.ddiv (FP.l2d od) (FP.l2d (2 : Int64)))), .second, .unset] []))
        refine own_via (fun t k => XS.dload X18.here hx rfl (hb hby at_192) rfl k) ?_
        show OwnEnds p.tables e below _ (T18.setTop (mkF m 194 #[.val (.long q0), .second, .val (.long q1), .second, .val (.int p2), .val (.int p3), .val (.double (9221120237041090560 : UInt64)), .second, .val (.int (1 : Int32)), .val (.long dd), .second, .val (.double (FP.ddiv (FP.l2d q0) (FP.l2d dd))), .second, .val (.int (1 : Int32)), .val (.int (1 : Int32)), .val (.long qv), .second, .val (.long e2), .second, .val (.int (1 : Int32)), .val (.long od), .second, .val (.double (FP.ddiv (FP.l2d od) (FP.l2d (2 : Int64)))), .second, .unset] [(.double (FP.ddiv (FP.l2d od) (FP.l2d (2 : Int64))))]))
        refine own_via (fun t k => XS.dload X18.here hx rfl (hb hby at_194) rfl k) ?_
        show OwnEnds p.tables e below _ (T18.setTop (mkF m 196 #[.val (.long q0), .second, .val (.long q1), .second, .val (.int p2), .val (.int p3), .val (.double (9221120237041090560 : UInt64)), .second, .val (.int (1 : Int32)), .val (.long dd), .second, .val (.double (FP.ddiv (FP.l2d q0) (FP.l2d dd))), .second, .val (.int (1 : Int32)), .val (.int (1 : Int32)), .val (.long qv), .second, .val (.long e2), .second, .val (.int (1 : Int32)), .val (.long od), .second, .val (.double (FP.ddiv (FP.l2d od) (FP.l2d (2 : Int64)))), .second, .unset] [(.double (FP.ddiv (FP.l2d od) (FP.l2d (2 : Int64)))), (.double (FP.ddiv (FP.l2d od) (FP.l2d (2 : Int64))))]))
        refine own_via (fun t k => XS.daddS X18.here hx rfl (hb hby at_196) rfl (nn_w (own_half hod.1 hod.2)) rfl k) ?_
        show OwnEnds p.tables e below _ (T18.setTop (mkF m 197 #[.val (.long q0), .second, .val (.long q1), .second, .val (.int p2), .val (.int p3), .val (.double (9221120237041090560 : UInt64)), .second, .val (.int (1 : Int32)), .val (.long dd), .second, .val (.double (FP.ddiv (FP.l2d q0) (FP.l2d dd))), .second, .val (.int (1 : Int32)), .val (.int (1 : Int32)), .val (.long qv), .second, .val (.long e2), .second, .val (.int (1 : Int32)), .val (.long od), .second, .val (.double (FP.ddiv (FP.l2d od) (FP.l2d (2 : Int64)))), .second, .unset] [(.double (FP.dadd (FP.ddiv (FP.l2d od) (FP.l2d (2 : Int64))) (FP.ddiv (FP.l2d od) (FP.l2d (2 : Int64)))))]))
        refine own_via (fun t k => XS.lload X18.here hx rfl (hb hby at_197) rfl k) ?_
        show OwnEnds p.tables e below _ (T18.setTop (mkF m 199 #[.val (.long q0), .second, .val (.long q1), .second, .val (.int p2), .val (.int p3), .val (.double (9221120237041090560 : UInt64)), .second, .val (.int (1 : Int32)), .val (.long dd), .second, .val (.double (FP.ddiv (FP.l2d q0) (FP.l2d dd))), .second, .val (.int (1 : Int32)), .val (.int (1 : Int32)), .val (.long qv), .second, .val (.long e2), .second, .val (.int (1 : Int32)), .val (.long od), .second, .val (.double (FP.ddiv (FP.l2d od) (FP.l2d (2 : Int64)))), .second, .unset] [(.long od), (.double (FP.dadd (FP.ddiv (FP.l2d od) (FP.l2d (2 : Int64))) (FP.ddiv (FP.l2d od) (FP.l2d (2 : Int64)))))]))
        refine own_via (fun t k => XS.l2dS X18.here hx rfl (hb hby at_199) rfl rfl k) ?_
        show OwnEnds p.tables e below _ (T18.setTop (mkF m 200 #[.val (.long q0), .second, .val (.long q1), .second, .val (.int p2), .val (.int p3), .val (.double (9221120237041090560 : UInt64)), .second, .val (.int (1 : Int32)), .val (.long dd), .second, .val (.double (FP.ddiv (FP.l2d q0) (FP.l2d dd))), .second, .val (.int (1 : Int32)), .val (.int (1 : Int32)), .val (.long qv), .second, .val (.long e2), .second, .val (.int (1 : Int32)), .val (.long od), .second, .val (.double (FP.ddiv (FP.l2d od) (FP.l2d (2 : Int64)))), .second, .unset] [(.double (FP.l2d od)), (.double (FP.dadd (FP.ddiv (FP.l2d od) (FP.l2d (2 : Int64))) (FP.ddiv (FP.l2d od) (FP.l2d (2 : Int64)))))]))
        refine own_via (fun t k => XS.dcmpS X18.here hx rfl (hb hby at_200) rfl rfl k) ?_
        show OwnEnds p.tables e below _ (T18.setTop (mkF m 201 #[.val (.long q0), .second, .val (.long q1), .second, .val (.int p2), .val (.int p3), .val (.double (9221120237041090560 : UInt64)), .second, .val (.int (1 : Int32)), .val (.long dd), .second, .val (.double (FP.ddiv (FP.l2d q0) (FP.l2d dd))), .second, .val (.int (1 : Int32)), .val (.int (1 : Int32)), .val (.long qv), .second, .val (.long e2), .second, .val (.int (1 : Int32)), .val (.long od), .second, .val (.double (FP.ddiv (FP.l2d od) (FP.l2d (2 : Int64)))), .second, .unset] [(.int (cmpValue (FP.dcmp (FP.dadd (FP.ddiv (FP.l2d od) (FP.l2d (2 : Int64))) (FP.ddiv (FP.l2d od) (FP.l2d (2 : Int64)))) (FP.l2d od)) .l))]))
        have hc201_19 : (cmpValue (FP.dcmp (FP.dadd (FP.ddiv (FP.l2d od) (FP.l2d (2 : Int64))) (FP.ddiv (FP.l2d od) (FP.l2d (2 : Int64)))) (FP.l2d od)) .l) = (0 : Int32) := own_cmp_eq (by rw [own_half hod.1 hod.2]; exact Jvm.FP.Core.dcmp_refl (Jvm.FP.Core.l2d_notNaN _))
        refine own_via (fun t k => XS.ifNo X18.here hx rfl (hb hby at_201) rfl ((if0 _ _).trans (teq hc201_19).2) k) ?_
        show OwnEnds p.tables e below _ (T18.setTop (mkF m 204 #[.val (.long q0), .second, .val (.long q1), .second, .val (.int p2), .val (.int p3), .val (.double (9221120237041090560 : UInt64)), .second, .val (.int (1 : Int32)), .val (.long dd), .second, .val (.double (FP.ddiv (FP.l2d q0) (FP.l2d dd))), .second, .val (.int (1 : Int32)), .val (.int (1 : Int32)), .val (.long qv), .second, .val (.long e2), .second, .val (.int (1 : Int32)), .val (.long od), .second, .val (.double (FP.ddiv (FP.l2d od) (FP.l2d (2 : Int64)))), .second, .unset] []))
        refine own_via (fun t k => XS.iconst X18.here hx rfl (hb hby at_204) k) ?_
        show OwnEnds p.tables e below _ (T18.setTop (mkF m 205 #[.val (.long q0), .second, .val (.long q1), .second, .val (.int p2), .val (.int p3), .val (.double (9221120237041090560 : UInt64)), .second, .val (.int (1 : Int32)), .val (.long dd), .second, .val (.double (FP.ddiv (FP.l2d q0) (FP.l2d dd))), .second, .val (.int (1 : Int32)), .val (.int (1 : Int32)), .val (.long qv), .second, .val (.long e2), .second, .val (.int (1 : Int32)), .val (.long od), .second, .val (.double (FP.ddiv (FP.l2d od) (FP.l2d (2 : Int64)))), .second, .unset] [(.int (1 : Int32))]))
        refine own_via (fun t k => XS.goto X18.here hx rfl (pc0 := 205) (pc' := 209) rfl (hb hby at_205) (by decide) (by decide) k) ?_
        show OwnEnds p.tables e below _ (T18.setTop (mkF m 209 #[.val (.long q0), .second, .val (.long q1), .second, .val (.int p2), .val (.int p3), .val (.double (9221120237041090560 : UInt64)), .second, .val (.int (1 : Int32)), .val (.long dd), .second, .val (.double (FP.ddiv (FP.l2d q0) (FP.l2d dd))), .second, .val (.int (1 : Int32)), .val (.int (1 : Int32)), .val (.long qv), .second, .val (.long e2), .second, .val (.int (1 : Int32)), .val (.long od), .second, .val (.double (FP.ddiv (FP.l2d od) (FP.l2d (2 : Int64)))), .second, .unset] [(.int (1 : Int32))]))
        refine own_via (fun t k => XS.istore X18.here hx rfl (hb hby at_209) rfl (l' := #[.val (.long q0), .second, .val (.long q1), .second, .val (.int p2), .val (.int p3), .val (.double (9221120237041090560 : UInt64)), .second, .val (.int (1 : Int32)), .val (.long dd), .second, .val (.double (FP.ddiv (FP.l2d q0) (FP.l2d dd))), .second, .val (.int (1 : Int32)), .val (.int (1 : Int32)), .val (.long qv), .second, .val (.long e2), .second, .val (.int (1 : Int32)), .val (.long od), .second, .val (.double (FP.ddiv (FP.l2d od) (FP.l2d (2 : Int64)))), .second, .val (.int (1 : Int32))]) rfl k) ?_
        show OwnEnds p.tables e below _ (T18.setTop (mkF m 211 #[.val (.long q0), .second, .val (.long q1), .second, .val (.int p2), .val (.int p3), .val (.double (9221120237041090560 : UInt64)), .second, .val (.int (1 : Int32)), .val (.long dd), .second, .val (.double (FP.ddiv (FP.l2d q0) (FP.l2d dd))), .second, .val (.int (1 : Int32)), .val (.int (1 : Int32)), .val (.long qv), .second, .val (.long e2), .second, .val (.int (1 : Int32)), .val (.long od), .second, .val (.double (FP.ddiv (FP.l2d od) (FP.l2d (2 : Int64)))), .second, .val (.int (1 : Int32))] []))
        refine own_via (fun t k => XS.iload X18.here hx rfl (hb hby at_211) rfl k) ?_
        show OwnEnds p.tables e below _ (T18.setTop (mkF m 213 #[.val (.long q0), .second, .val (.long q1), .second, .val (.int p2), .val (.int p3), .val (.double (9221120237041090560 : UInt64)), .second, .val (.int (1 : Int32)), .val (.long dd), .second, .val (.double (FP.ddiv (FP.l2d q0) (FP.l2d dd))), .second, .val (.int (1 : Int32)), .val (.int (1 : Int32)), .val (.long qv), .second, .val (.long e2), .second, .val (.int (1 : Int32)), .val (.long od), .second, .val (.double (FP.ddiv (FP.l2d od) (FP.l2d (2 : Int64)))), .second, .val (.int (1 : Int32))] [(.int (1 : Int32))]))
        have hc213_20 : ¬ ((1 : Int32) = (0 : Int32)) := by decide
        refine own_via (fun t k => XS.ifNo X18.here hx rfl (hb hby at_213) rfl ((if0 _ _).trans (feq hc213_20).1) k) ?_
        show OwnEnds p.tables e below _ (T18.setTop (mkF m 216 #[.val (.long q0), .second, .val (.long q1), .second, .val (.int p2), .val (.int p3), .val (.double (9221120237041090560 : UInt64)), .second, .val (.int (1 : Int32)), .val (.long dd), .second, .val (.double (FP.ddiv (FP.l2d q0) (FP.l2d dd))), .second, .val (.int (1 : Int32)), .val (.int (1 : Int32)), .val (.long qv), .second, .val (.long e2), .second, .val (.int (1 : Int32)), .val (.long od), .second, .val (.double (FP.ddiv (FP.l2d od) (FP.l2d (2 : Int64)))), .second, .val (.int (1 : Int32))] []))
        refine own_via (fun t k => XS.iload X18.here hx rfl (hb hby at_216) rfl k) ?_
        show OwnEnds p.tables e below _ (T18.setTop (mkF m 218 #[.val (.long q0), .second, .val (.long q1), .second, .val (.int p2), .val (.int p3), .val (.double (9221120237041090560 : UInt64)), .second, .val (.int (1 : Int32)), .val (.long dd), .second, .val (.double (FP.ddiv (FP.l2d q0) (FP.l2d dd))), .second, .val (.int (1 : Int32)), .val (.int (1 : Int32)), .val (.long qv), .second, .val (.long e2), .second, .val (.int (1 : Int32)), .val (.long od), .second, .val (.double (FP.ddiv (FP.l2d od) (FP.l2d (2 : Int64)))), .second, .val (.int (1 : Int32))] [(.int (1 : Int32))]))
        have hc218_21 : ¬ ((1 : Int32) = (0 : Int32)) := by decide
        refine own_via (fun t k => XS.ifNo X18.here hx rfl (hb hby at_218) rfl ((if0 _ _).trans (feq hc218_21).1) k) ?_
        show OwnEnds p.tables e below _ (T18.setTop (mkF m 221 #[.val (.long q0), .second, .val (.long q1), .second, .val (.int p2), .val (.int p3), .val (.double (9221120237041090560 : UInt64)), .second, .val (.int (1 : Int32)), .val (.long dd), .second, .val (.double (FP.ddiv (FP.l2d q0) (FP.l2d dd))), .second, .val (.int (1 : Int32)), .val (.int (1 : Int32)), .val (.long qv), .second, .val (.long e2), .second, .val (.int (1 : Int32)), .val (.long od), .second, .val (.double (FP.ddiv (FP.l2d od) (FP.l2d (2 : Int64)))), .second, .val (.int (1 : Int32))] []))
        refine own_via (fun t k => XS.iload X18.here hx rfl (hb hby at_221) rfl k) ?_
        show OwnEnds p.tables e below _ (T18.setTop (mkF m 223 #[.val (.long q0), .second, .val (.long q1), .second, .val (.int p2), .val (.int p3), .val (.double (9221120237041090560 : UInt64)), .second, .val (.int (1 : Int32)), .val (.long dd), .second, .val (.double (FP.ddiv (FP.l2d q0) (FP.l2d dd))), .second, .val (.int (1 : Int32)), .val (.int (1 : Int32)), .val (.long qv), .second, .val (.long e2), .second, .val (.int (1 : Int32)), .val (.long od), .second, .val (.double (FP.ddiv (FP.l2d od) (FP.l2d (2 : Int64)))), .second, .val (.int (1 : Int32))] [(.int (1 : Int32))]))
        have hc223_22 : ¬ ((1 : Int32) = (0 : Int32)) := by decide
        refine own_via (fun t k => XS.ifNo X18.here hx rfl (hb hby at_223) rfl ((if0 _ _).trans (feq hc223_22).1) k) ?_
        show OwnEnds p.tables e below _ (T18.setTop (mkF m 226 #[.val (.long q0), .second, .val (.long q1), .second, .val (.int p2), .val (.int p3), .val (.double (9221120237041090560 : UInt64)), .second, .val (.int (1 : Int32)), .val (.long dd), .second, .val (.double (FP.ddiv (FP.l2d q0) (FP.l2d dd))), .second, .val (.int (1 : Int32)), .val (.int (1 : Int32)), .val (.long qv), .second, .val (.long e2), .second, .val (.int (1 : Int32)), .val (.long od), .second, .val (.double (FP.ddiv (FP.l2d od) (FP.l2d (2 : Int64)))), .second, .val (.int (1 : Int32))] []))
        refine own_via (fun t k => XS.iload X18.here hx rfl (hb hby at_226) rfl k) ?_
        show OwnEnds p.tables e below _ (T18.setTop (mkF m 228 #[.val (.long q0), .second, .val (.long q1), .second, .val (.int p2), .val (.int p3), .val (.double (9221120237041090560 : UInt64)), .second, .val (.int (1 : Int32)), .val (.long dd), .second, .val (.double (FP.ddiv (FP.l2d q0) (FP.l2d dd))), .second, .val (.int (1 : Int32)), .val (.int (1 : Int32)), .val (.long qv), .second, .val (.long e2), .second, .val (.int (1 : Int32)), .val (.long od), .second, .val (.double (FP.ddiv (FP.l2d od) (FP.l2d (2 : Int64)))), .second, .val (.int (1 : Int32))] [(.int (1 : Int32))]))
        have hc228_23 : ¬ ((1 : Int32) = (0 : Int32)) := by decide
        refine own_via (fun t k => XS.ifNo X18.here hx rfl (hb hby at_228) rfl ((if0 _ _).trans (feq hc228_23).1) k) ?_
        show OwnEnds p.tables e below _ (T18.setTop (mkF m 231 #[.val (.long q0), .second, .val (.long q1), .second, .val (.int p2), .val (.int p3), .val (.double (9221120237041090560 : UInt64)), .second, .val (.int (1 : Int32)), .val (.long dd), .second, .val (.double (FP.ddiv (FP.l2d q0) (FP.l2d dd))), .second, .val (.int (1 : Int32)), .val (.int (1 : Int32)), .val (.long qv), .second, .val (.long e2), .second, .val (.int (1 : Int32)), .val (.long od), .second, .val (.double (FP.ddiv (FP.l2d od) (FP.l2d (2 : Int64)))), .second, .val (.int (1 : Int32))] []))
        refine own_via (fun t k => XS.iload X18.here hx rfl (hb hby at_231) rfl k) ?_
        show OwnEnds p.tables e below _ (T18.setTop (mkF m 233 #[.val (.long q0), .second, .val (.long q1), .second, .val (.int p2), .val (.int p3), .val (.double (9221120237041090560 : UInt64)), .second, .val (.int (1 : Int32)), .val (.long dd), .second, .val (.double (FP.ddiv (FP.l2d q0) (FP.l2d dd))), .second, .val (.int (1 : Int32)), .val (.int (1 : Int32)), .val (.long qv), .second, .val (.long e2), .second, .val (.int (1 : Int32)), .val (.long od), .second, .val (.double (FP.ddiv (FP.l2d od) (FP.l2d (2 : Int64)))), .second, .val (.int (1 : Int32))] [(.int (1 : Int32))]))
        have hc233_24 : ¬ ((1 : Int32) = (0 : Int32)) := by decide
        refine own_via (fun t k => XS.ifNo X18.here hx rfl (hb hby at_233) rfl ((if0 _ _).trans (feq hc233_24).1) k) ?_
        show OwnEnds p.tables e below _ (T18.setTop (mkF m 236 #[.val (.long q0), .second, .val (.long q1), .second, .val (.int p2), .val (.int p3), .val (.double (9221120237041090560 : UInt64)), .second, .val (.int (1 : Int32)), .val (.long dd), .second, .val (.double (FP.ddiv (FP.l2d q0) (FP.l2d dd))), .second, .val (.int (1 : Int32)), .val (.int (1 : Int32)), .val (.long qv), .second, .val (.long e2), .second, .val (.int (1 : Int32)), .val (.long od), .second, .val (.double (FP.ddiv (FP.l2d od) (FP.l2d (2 : Int64)))), .second, .val (.int (1 : Int32))] []))
        refine own_via (fun t k => XS.iconst X18.here hx rfl (hb hby at_236) k) ?_
        show OwnEnds p.tables e below _ (T18.setTop (mkF m 237 #[.val (.long q0), .second, .val (.long q1), .second, .val (.int p2), .val (.int p3), .val (.double (9221120237041090560 : UInt64)), .second, .val (.int (1 : Int32)), .val (.long dd), .second, .val (.double (FP.ddiv (FP.l2d q0) (FP.l2d dd))), .second, .val (.int (1 : Int32)), .val (.int (1 : Int32)), .val (.long qv), .second, .val (.long e2), .second, .val (.int (1 : Int32)), .val (.long od), .second, .val (.double (FP.ddiv (FP.l2d od) (FP.l2d (2 : Int64)))), .second, .val (.int (1 : Int32))] [(.int (1 : Int32))]))
        refine own_via (fun t k => XS.goto X18.here hx rfl (pc0 := 237) (pc' := 241) rfl (hb hby at_237) (by decide) (by decide) k) ?_
        show OwnEnds p.tables e below _ (T18.setTop (mkF m 241 #[.val (.long q0), .second, .val (.long q1), .second, .val (.int p2), .val (.int p3), .val (.double (9221120237041090560 : UInt64)), .second, .val (.int (1 : Int32)), .val (.long dd), .second, .val (.double (FP.ddiv (FP.l2d q0) (FP.l2d dd))), .second, .val (.int (1 : Int32)), .val (.int (1 : Int32)), .val (.long qv), .second, .val (.long e2), .second, .val (.int (1 : Int32)), .val (.long od), .second, .val (.double (FP.ddiv (FP.l2d od) (FP.l2d (2 : Int64)))), .second, .val (.int (1 : Int32))] [(.int (1 : Int32))]))
        refine own_retN (t := .boolean) X18 hx Bd.returns (by simp) hlk (hb hby at_241) ?_ (by decide) (by decide)
        rw [e18]
        exact ⟨rfl, N18⟩
      by_cases hc128_25 : ev = (0 : Int64)
      · skip
        refine own_via (fun t k => XS.ifNo XJ101_10.here hx rfl (hb hby at_128) rfl (own_lc_eq_t hc128_25).2 k) ?_
        show OwnEnds p.tables e below _ (TJ101_10.setTop (mkF m 131 #[.val (.long q0), .second, .val (.long q1), .second, .val (.int p2), .val (.int p3), .val (.double (9221120237041090560 : UInt64)), .second, .val (.int (1 : Int32)), .val (.long dd), .second, .val (.double (FP.ddiv (FP.l2d q0) (FP.l2d dd))), .second, .val (.int (1 : Int32)), .val (.int (1 : Int32)), .val (.long qv), .second, .val (.long ev), .second, .unset, .unset, .unset, .unset, .unset, .unset] []))
        refine own_via (fun t k => XS.lconst XJ101_10.here hx rfl (hb hby at_131) k) ?_
        show OwnEnds p.tables e below _ (TJ101_10.setTop (mkF m 132 #[.val (.long q0), .second, .val (.long q1), .second, .val (.int p2), .val (.int p3), .val (.double (9221120237041090560 : UInt64)), .second, .val (.int (1 : Int32)), .val (.long dd), .second, .val (.double (FP.ddiv (FP.l2d q0) (FP.l2d dd))), .second, .val (.int (1 : Int32)), .val (.int (1 : Int32)), .val (.long qv), .second, .val (.long ev), .second, .unset, .unset, .unset, .unset, .unset, .unset] [(.long (1 : Int64))]))
        refine own_via (fun t k => XS.lstore XJ101_10.here hx rfl (hb hby at_132) rfl (l' := #[.val (.long q0), .second, .val (.long q1), .second, .val (.int p2), .val (.int p3), .val (.double (9221120237041090560 : UInt64)), .second, .val (.int (1 : Int32)), .val (.long dd), .second, .val (.double (FP.ddiv (FP.l2d q0) (FP.l2d dd))), .second, .val (.int (1 : Int32)), .val (.int (1 : Int32)), .val (.long qv), .second, .val (.long (1 : Int64)), .second, .unset, .unset, .unset, .unset, .unset, .unset]) rfl k) ?_
        show OwnEnds p.tables e below _ (TJ101_10.setTop (mkF m 134 #[.val (.long q0), .second, .val (.long q1), .second, .val (.int p2), .val (.int p3), .val (.double (9221120237041090560 : UInt64)), .second, .val (.int (1 : Int32)), .val (.long dd), .second, .val (.double (FP.ddiv (FP.l2d q0) (FP.l2d dd))), .second, .val (.int (1 : Int32)), .val (.int (1 : Int32)), .val (.long qv), .second, .val (.long (1 : Int64)), .second, .unset, .unset, .unset, .unset, .unset, .unset] []))
        exact J134_11 _ (by simp only [if_pos hc128_25])
      · skip
        refine own_via (fun t k => XS.ifYes XJ101_10.here hx rfl (pc0 := 128) (pc' := 134) rfl (hb hby at_128) rfl (own_lc_eq_f hc128_25).2 (by decide) (by decide) k) ?_
        show OwnEnds p.tables e below _ (TJ101_10.setTop (mkF m 134 #[.val (.long q0), .second, .val (.long q1), .second, .val (.int p2), .val (.int p3), .val (.double (9221120237041090560 : UInt64)), .second, .val (.int (1 : Int32)), .val (.long dd), .second, .val (.double (FP.ddiv (FP.l2d q0) (FP.l2d dd))), .second, .val (.int (1 : Int32)), .val (.int (1 : Int32)), .val (.long qv), .second, .val (.long ev), .second, .unset, .unset, .unset, .unset, .unset, .unset] []))
        exact J134_11 _ (by simp only [if_neg hc128_25])
    by_cases hc77_26 : q0 = (-9223372036854775808 : Int64)
    · skip
      refine own_via (fun t k => XS.ifYes X8.here hx rfl (pc0 := 77) (pc' := 101) rfl (hb hby at_77) rfl (own_lc_eq_t hc77_26).1 (by decide) (by decide) k) ?_
      show OwnEnds p.tables e below _ (T8.setTop (mkF m 101 #[.val (.long q0), .second, .val (.long q1), .second, .val (.int p2), .val (.int p3), .val (.double (9221120237041090560 : UInt64)), .second, .val (.int (1 : Int32)), .val (.long dd), .second, .val (.double (FP.ddiv (FP.l2d q0) (FP.l2d dd))), .second, .val (.int (1 : Int32)), .unset, .unset, .unset, .unset, .unset, .unset, .unset, .unset, .unset, .unset, .unset] []))
      exact J101_10 _ _ _ (own_wide X8 (by decide) (by decide)) e8 N8 Zs_7 E_b1 F_numerator_b1 F_denominator_b1 E_b6 F_numerator_b6 F_denominator_b6
    · skip
      refine own_via (fun t k => XS.ifNo X8.here hx rfl (hb hby at_77) rfl (own_lc_eq_f hc77_26).1 k) ?_
      show OwnEnds p.tables e below _ (T8.setTop (mkF m 80 #[.val (.long q0), .second, .val (.long q1), .second, .val (.int p2), .val (.int p3), .val (.double (9221120237041090560 : UInt64)), .second, .val (.int (1 : Int32)), .val (.long dd), .second, .val (.double (FP.ddiv (FP.l2d q0) (FP.l2d dd))), .second, .val (.int (1 : Int32)), .unset, .unset, .unset, .unset, .unset, .unset, .unset, .unset, .unset, .unset, .unset] []))
      obtain ⟨T27, h27, X27, e27, E27, A27, D27, -, st27⟩ := newO X8 hx hZ hown (hw _ (List.mem_of_getElem? (i := 0) rfl)) (hw _ (List.mem_of_getElem? (i := 1) rfl)) (hw _ (List.mem_of_getElem? (i := 2) rfl)) e8 (g := (mkF m 80 #[.val (.long q0), .second, .val (.long q1), .second, .val (.int p2), .val (.int p3), .val (.double (9221120237041090560 : UInt64)), .second, .val (.int (1 : Int32)), .val (.long dd), .second, .val (.double (FP.ddiv (FP.l2d q0) (FP.l2d dd))), .second, .val (.int (1 : Int32)), .unset, .unset, .unset, .unset, .unset, .unset, .unset, .unset, .unset, .unset, .unset] [])) rfl (hb hby at_80) (by decide) (by decide)
      obtain ⟨b27, g27⟩ : ∃ z, z = h7.size := ⟨_, rfl⟩
      rw [← g27] at A27 D27 st27
      have ne_b1_b27 : b1 ≠ b27 := Nat.ne_of_lt (Nat.lt_of_lt_of_le E_b1.lt (Nat.le_of_eq g27.symm))
      have ne_b6_b27 : b6 ≠ b27 := Nat.ne_of_lt (Nat.lt_of_lt_of_le E_b6.lt (Nat.le_of_eq g27.symm))
      have g_b27 : n0 ≤ b27 := Nat.le_trans Zs_7 (Nat.le_of_eq g27.symm)
      have Zs_27 : n0 ≤ _ := Nat.le_trans Zs_7 E27.1
      replace E_b1 := E_b1.ext E27
      replace F_numerator_b1 := F_numerator_b1.ext E27
      replace F_denominator_b1 := F_denominator_b1.ext E27
      replace E_b6 := E_b6.ext E27
      replace F_numerator_b6 := F_numerator_b6.ext E27
      replace F_denominator_b6 := F_denominator_b6.ext E27
      have E_b27 := A27
      have F_numerator_b27 : Fld Z h27 b27 "com/example/libhorn/libhorn/measures/Ratio" "numerator" "J" (.long (0 : Int64)) := D27 (Or.inr (hw _ (List.mem_of_getElem? (i := 15) rfl))) (ty := .long) (by decide)
      have F_denominator_b27 : Fld Z h27 b27 "com/example/libhorn/libhorn/measures/Ratio" "denominator" "J" (.long (0 : Int64)) := D27 (Or.inr (hw _ (List.mem_of_getElem? (i := 17) rfl))) (ty := .long) (by decide)
      refine own_via st27 ?_
      show OwnEnds p.tables e below _ (T27.setTop (mkF m 83 #[.val (.long q0), .second, .val (.long q1), .second, .val (.int p2), .val (.int p3), .val (.double (9221120237041090560 : UInt64)), .second, .val (.int (1 : Int32)), .val (.long dd), .second, .val (.double (FP.ddiv (FP.l2d q0) (FP.l2d dd))), .second, .val (.int (1 : Int32)), .unset, .unset, .unset, .unset, .unset, .unset, .unset, .unset, .unset, .unset, .unset] [(.ref b27)]))
      refine own_via (fun t k => XS.dup X27.here hx rfl (hb hby at_83) rfl rfl k) ?_
      show OwnEnds p.tables e below _ (T27.setTop (mkF m 84 #[.val (.long q0), .second, .val (.long q1), .second, .val (.int p2), .val (.int p3), .val (.double (9221120237041090560 : UInt64)), .second, .val (.int (1 : Int32)), .val (.long dd), .second, .val (.double (FP.ddiv (FP.l2d q0) (FP.l2d dd))), .second, .val (.int (1 : Int32)), .unset, .unset, .unset, .unset, .unset, .unset, .unset, .unset, .unset, .unset, .unset] [(.ref b27), (.ref b27)]))
      refine own_via (fun t k => XS.lloadN X27.here hx rfl (hb hby at_84) rfl k) ?_
      show OwnEnds p.tables e below _ (T27.setTop (mkF m 85 #[.val (.long q0), .second, .val (.long q1), .second, .val (.int p2), .val (.int p3), .val (.double (9221120237041090560 : UInt64)), .second, .val (.int (1 : Int32)), .val (.long dd), .second, .val (.double (FP.ddiv (FP.l2d q0) (FP.l2d dd))), .second, .val (.int (1 : Int32)), .unset, .unset, .unset, .unset, .unset, .unset, .unset, .unset, .unset, .unset, .unset] [(.long q0), (.ref b27), (.ref b27)]))
      refine own_via (fun t k => XS.lneg X27.here hx rfl (hb hby at_85) rfl k) ?_
      show OwnEnds p.tables e below _ (T27.setTop (mkF m 86 #[.val (.long q0), .second, .val (.long q1), .second, .val (.int p2), .val (.int p3), .val (.double (9221120237041090560 : UInt64)), .second, .val (.int (1 : Int32)), .val (.long dd), .second, .val (.double (FP.ddiv (FP.l2d q0) (FP.l2d dd))), .second, .val (.int (1 : Int32)), .unset, .unset, .unset, .unset, .unset, .unset, .unset, .unset, .unset, .unset, .unset] [(.long (-q0)), (.ref b27), (.ref b27)]))
      refine own_via (fun t k => XS.lload X27.here hx rfl (hb hby at_86) rfl k) ?_
      show OwnEnds p.tables e below _ (T27.setTop (mkF m 88 #[.val (.long q0), .second, .val (.long q1), .second, .val (.int p2), .val (.int p3), .val (.double (9221120237041090560 : UInt64)), .second, .val (.int (1 : Int32)), .val (.long dd), .second, .val (.double (FP.ddiv (FP.l2d q0) (FP.l2d dd))), .second, .val (.int (1 : Int32)), .unset, .unset, .unset, .unset, .unset, .unset, .unset, .unset, .unset, .unset, .unset] [(.long dd), (.long (-q0)), (.ref b27), (.ref b27)]))
      obtain ⟨_, _, ⟨T28, L28, k28, n28⟩, -, X28, ⟨Lc28, hQ28, l28, y28, z28⟩, st28⟩ := X27.specialBack hx (y := (⟨"com/example/libhorn/libhorn/measures/Ratio", "<init>", "(JJ)V"⟩ : MethodName)) rfl hown (mvT hZ (hw _ (List.mem_of_getElem? (i := 3) rfl))) (mvT hZ (hw _ (List.mem_of_getElem? (i := 4) rfl))) (mvT hZ (hw _ (List.mem_of_getElem? (i := 5) rfl))) (by decide) (backOf (W := 1) (rm1 l Z aw hw [] b27 (-q0) dd h27 n0 Zs_27 E_b27 F_numerator_b27 F_denominator_b27 g_b27) hZ (hw _ (List.mem_of_getElem? (i := 5) rfl)) (hw _ (List.mem_of_getElem? (i := 2) rfl)) (by decide) (by decide)) (g := (mkF m 88 #[.val (.long q0), .second, .val (.long q1), .second, .val (.int p2), .val (.int p3), .val (.double (9221120237041090560 : UInt64)), .second, .val (.int (1 : Int32)), .val (.long dd), .second, .val (.double (FP.ddiv (FP.l2d q0) (FP.l2d dd))), .second, .val (.int (1 : Int32)), .unset, .unset, .unset, .unset, .unset, .unset, .unset, .unset, .unset, .unset, .unset] [(.long dd), (.long (-q0)), (.ref b27), (.ref b27)])) rfl (by rw [hml]; rfl) (Steps.refl _) (a := b27) (argsL := [(.long (-q0)), (.long dd)]) (rest := [(.ref b27)]) (lenOf pd_1 rfl) rfl (by show 2 * 0 + _ ≤ _; exact Nat.le_of_eq rfl) (hb hby at_88) (fun _ _ => ⟨rfl, e27, (by decide : 3 + 0 ≤ _), (by decide : 6 + 0 ≤ _)⟩)
      dsimp only [Pt.U, Pt.locs, Pt.cells, Pt.slots] at X28 l28 y28 z28 st28 hQ28
      rw [l28, y28, z28] at X28
      obtain ⟨h28, e28⟩ : ∃ z, T28.heap = z := ⟨_, rfl⟩
      rw [e28] at hQ28
      obtain ⟨rfl, Nq28, K28, Y28_0, Y28_1, Y28_2⟩ := hQ28
      have N28 := Fr.app N8 Nq28
      replace E_b1 := E_b1.keep K28
      replace F_numerator_b1 := F_numerator_b1.keep K28 (ninS ne_b1_b27 nin0)
      replace F_denominator_b1 := F_denominator_b1.keep K28 (ninS ne_b1_b27 nin0)
      replace E_b6 := E_b6.keep K28
      replace F_numerator_b6 := F_numerator_b6.keep K28 (ninS ne_b6_b27 nin0)
      replace F_denominator_b6 := F_denominator_b6.keep K28 (ninS ne_b6_b27 nin0)
      replace E_b27 := E_b27.keep K28
      have F_numerator_b27 : Fld Z h28 b27 "com/example/libhorn/libhorn/measures/Ratio" "numerator" "J" (.long (-q0)) := Y28_1
      have F_denominator_b27 : Fld Z h28 b27 "com/example/libhorn/libhorn/measures/Ratio" "denominator" "J" (.long dd) := Y28_2
      have Zs_28 : n0 ≤ _ := Nat.le_trans Zs_27 K28.1
      refine own_of st28 ?_
      show OwnEnds p.tables e below _ (T28.setTop (mkF m 91 #[.val (.long q0), .second, .val (.long q1), .second, .val (.int p2), .val (.int p3), .val (.double (9221120237041090560 : UInt64)), .second, .val (.int (1 : Int32)), .val (.long dd), .second, .val (.double (FP.ddiv (FP.l2d q0) (FP.l2d dd))), .second, .val (.int (1 : Int32)), .unset, .unset, .unset, .unset, .unset, .unset, .unset, .unset, .unset, .unset, .unset] [(.ref b27)]))
      obtain ⟨cq29, kq29, q29a, q29b, q29c⟩ := isOf hZ e28 E_b27
      obtain ⟨_, _, ⟨T29, L29, k29, n29⟩, -, X29, ⟨Lc29, hQ29, l29, y29, z29⟩, st29⟩ := X28.virtualBack hx (y := (⟨"com/example/libhorn/libhorn/measures/Ratio", "value", "()D"⟩ : MethodName)) (z := (⟨"com/example/libhorn/libhorn/measures/Ratio", "value", "()D"⟩ : MethodName)) hown (mvT hZ (hw _ (List.mem_of_getElem? (i := 18) rfl))) (mvT hZ (hw _ (List.mem_of_getElem? (i := 19) rfl))) (notFace_of_selects (args := #[]) (mvT hZ (hw _ (List.mem_of_getElem? (i := 21) rfl)))) (mvT hZ (hw _ (List.mem_of_getElem? (i := 21) rfl))) (mvT hZ (hw _ (List.mem_of_getElem? (i := 20) rfl))) (by decide) (backOf (W := 0) (rm4q l Z aw hw [] b27 (-q0) dd h28 n0 Zs_28 F_numerator_b27 F_denominator_b27 hdd) hZ (hw _ (List.mem_of_getElem? (i := 22) rfl)) (hw _ (List.mem_of_getElem? (i := 2) rfl)) (by decide) (by decide)) q29a q29c (g := (mkF m 91 #[.val (.long q0), .second, .val (.long q1), .second, .val (.int p2), .val (.int p3), .val (.double (9221120237041090560 : UInt64)), .second, .val (.int (1 : Int32)), .val (.long dd), .second, .val (.double (FP.ddiv (FP.l2d q0) (FP.l2d dd))), .second, .val (.int (1 : Int32)), .unset, .unset, .unset, .unset, .unset, .unset, .unset, .unset, .unset, .unset, .unset] [(.ref b27)])) rfl (by rw [hml]; rfl) (Steps.refl _) (argsL := []) (rest := []) (lenOf pd_2 rfl) rfl (by show 2 * 0 + _ ≤ _; exact Nat.le_of_eq rfl) (hb hby at_91) (fun _ _ => ⟨rfl, e28, (by decide : 3 + 0 ≤ _), (by decide : 6 + 0 ≤ _)⟩)
      dsimp only [Pt.U, Pt.locs, Pt.cells, Pt.slots] at X29 l29 y29 z29 st29 hQ29
      rw [l29, y29, z29] at X29
      obtain ⟨rfl, Nq29, e29⟩ := hQ29
      have N29 := Fr.app N28 Nq29
      replace e29 : T29.heap = h28 := e29
      refine own_of st29 ?_
      show OwnEnds p.tables e below _ (T29.setTop (mkF m 94 #[.val (.long q0), .second, .val (.long q1), .second, .val (.int p2), .val (.int p3), .val (.double (9221120237041090560 : UInt64)), .second, .val (.int (1 : Int32)), .val (.long dd), .second, .val (.double (FP.ddiv (FP.l2d q0) (FP.l2d dd))), .second, .val (.int (1 : Int32)), .unset, .unset, .unset, .unset, .unset, .unset, .unset, .unset, .unset, .unset, .unset] [(.double (FP.ddiv (FP.l2d (-q0)) (FP.l2d dd)))]))
      refine own_via (fun t k => XS.dload X29.here hx rfl (hb hby at_94) rfl k) ?_
      show OwnEnds p.tables e below _ (T29.setTop (mkF m 96 #[.val (.long q0), .second, .val (.long q1), .second, .val (.int p2), .val (.int p3), .val (.double (9221120237041090560 : UInt64)), .second, .val (.int (1 : Int32)), .val (.long dd), .second, .val (.double (FP.ddiv (FP.l2d q0) (FP.l2d dd))), .second, .val (.int (1 : Int32)), .unset, .unset, .unset, .unset, .unset, .unset, .unset, .unset, .unset, .unset, .unset] [(.double (FP.ddiv (FP.l2d q0) (FP.l2d dd))), (.double (FP.ddiv (FP.l2d (-q0)) (FP.l2d dd)))]))
      refine own_via (fun t k => XS.dnegS X29.here hx rfl (hb hby at_96) rfl rfl k) ?_
      show OwnEnds p.tables e below _ (T29.setTop (mkF m 97 #[.val (.long q0), .second, .val (.long q1), .second, .val (.int p2), .val (.int p3), .val (.double (9221120237041090560 : UInt64)), .second, .val (.int (1 : Int32)), .val (.long dd), .second, .val (.double (FP.ddiv (FP.l2d q0) (FP.l2d dd))), .second, .val (.int (1 : Int32)), .unset, .unset, .unset, .unset, .unset, .unset, .unset, .unset, .unset, .unset, .unset] [(.double (FP.dneg (FP.ddiv (FP.l2d q0) (FP.l2d dd)))), (.double (FP.ddiv (FP.l2d (-q0)) (FP.l2d dd)))]))
      refine own_via (fun t k => XS.dcmpS X29.here hx rfl (hb hby at_97) rfl rfl k) ?_
      show OwnEnds p.tables e below _ (T29.setTop (mkF m 98 #[.val (.long q0), .second, .val (.long q1), .second, .val (.int p2), .val (.int p3), .val (.double (9221120237041090560 : UInt64)), .second, .val (.int (1 : Int32)), .val (.long dd), .second, .val (.double (FP.ddiv (FP.l2d q0) (FP.l2d dd))), .second, .val (.int (1 : Int32)), .unset, .unset, .unset, .unset, .unset, .unset, .unset, .unset, .unset, .unset, .unset] [(.int (cmpValue (FP.dcmp (FP.ddiv (FP.l2d (-q0)) (FP.l2d dd)) (FP.dneg (FP.ddiv (FP.l2d q0) (FP.l2d dd)))) .l))]))
      have hc98_30 : (cmpValue (FP.dcmp (FP.ddiv (FP.l2d (-q0)) (FP.l2d dd)) (FP.dneg (FP.ddiv (FP.l2d q0) (FP.l2d dd)))) .l) = (0 : Int32) := own_cmp_eq (own_sym hdd hc77_26)
      refine own_via (fun t k => XS.ifNo X29.here hx rfl (hb hby at_98) rfl ((if0 _ _).trans (teq hc98_30).2) k) ?_
      show OwnEnds p.tables e below _ (T29.setTop (mkF m 101 #[.val (.long q0), .second, .val (.long q1), .second, .val (.int p2), .val (.int p3), .val (.double (9221120237041090560 : UInt64)), .second, .val (.int (1 : Int32)), .val (.long dd), .second, .val (.double (FP.ddiv (FP.l2d q0) (FP.l2d dd))), .second, .val (.int (1 : Int32)), .unset, .unset, .unset, .unset, .unset, .unset, .unset, .unset, .unset, .unset, .unset] []))
      exact J101_10 _ _ _ (own_wide X29 (by decide) (by decide)) e29 N29 Zs_28 E_b1 F_numerator_b1 F_denominator_b1 E_b6 F_numerator_b6 F_denominator_b6
  by_cases hc32_31 : q1 = (0 : Int64)
  · skip
    refine own_via (fun t k => XS.ifNo X3.here hx rfl (hb hby at_32) rfl (own_lc_eq_t hc32_31).2 k) ?_
    show OwnEnds p.tables e below _ (T3.setTop (mkF m 35 #[.val (.long q0), .second, .val (.long q1), .second, .val (.int p2), .val (.int p3), .val (.double (9221120237041090560 : UInt64)), .second, .val (.int (1 : Int32)), .unset, .unset, .unset, .unset, .unset, .unset, .unset, .unset, .unset, .unset, .unset, .unset, .unset, .unset, .unset, .unset] []))
    refine own_via (fun t k => XS.lconst X3.here hx rfl (hb hby at_35) k) ?_
    show OwnEnds p.tables e below _ (T3.setTop (mkF m 36 #[.val (.long q0), .second, .val (.long q1), .second, .val (.int p2), .val (.int p3), .val (.double (9221120237041090560 : UInt64)), .second, .val (.int (1 : Int32)), .unset, .unset, .unset, .unset, .unset, .unset, .unset, .unset, .unset, .unset, .unset, .unset, .unset, .unset, .unset, .unset] [(.long (1 : Int64))]))
    refine own_via (fun t k => XS.goto X3.here hx rfl (pc0 := 36) (pc' := 40) rfl (hb hby at_36) (by decide) (by decide) k) ?_
    show OwnEnds p.tables e below _ (T3.setTop (mkF m 40 #[.val (.long q0), .second, .val (.long q1), .second, .val (.int p2), .val (.int p3), .val (.double (9221120237041090560 : UInt64)), .second, .val (.int (1 : Int32)), .unset, .unset, .unset, .unset, .unset, .unset, .unset, .unset, .unset, .unset, .unset, .unset, .unset, .unset, .unset, .unset] [(.long (1 : Int64))]))
    exact J40_5 _ (by simp only [if_pos hc32_31])
  · skip
    refine own_via (fun t k => XS.ifYes X3.here hx rfl (pc0 := 32) (pc' := 39) rfl (hb hby at_32) rfl (own_lc_eq_f hc32_31).2 (by decide) (by decide) k) ?_
    show OwnEnds p.tables e below _ (T3.setTop (mkF m 39 #[.val (.long q0), .second, .val (.long q1), .second, .val (.int p2), .val (.int p3), .val (.double (9221120237041090560 : UInt64)), .second, .val (.int (1 : Int32)), .unset, .unset, .unset, .unset, .unset, .unset, .unset, .unset, .unset, .unset, .unset, .unset, .unset, .unset, .unset, .unset] []))
    refine own_via (fun t k => XS.lloadN X3.here hx rfl (hb hby at_39) rfl k) ?_
    show OwnEnds p.tables e below _ (T3.setTop (mkF m 40 #[.val (.long q0), .second, .val (.long q1), .second, .val (.int p2), .val (.int p3), .val (.double (9221120237041090560 : UInt64)), .second, .val (.int (1 : Int32)), .unset, .unset, .unset, .unset, .unset, .unset, .unset, .unset, .unset, .unset, .unset, .unset, .unset, .unset, .unset, .unset] [(.long q1)]))
    exact J40_5 _ (by simp only [if_neg hc32_31])
set_option maxRecDepth 65536 in
set_option maxHeartbeats 40000000 in
theorem comes_1 {Post : Tables → Env → Array Value → State → Outcome → State → Prop} (hpost : ∀ tb e args s v u, (limb_1_1.after args s (.returned v) u = true ∧ limb_1_2.after args s (.returned v) u = true ∧ True) → FrameEnd s (.returned v) u (Jvm.fieldLocs frame_1_writes args s ++ Jvm.arrayLocs frame_1_arrays args s ++ Jvm.staticLocs frame_1_statics s) 24 128 → Post tb e args s (.returned v) u) :
    ArmFor flags0 classFile x code maxLocals ret World_1 tables_1 room_1 Calls_1 rest_1 Pre_1 Post := by
  intro l hfl _ _ p e ha hc hk s m args below hf hA hF happ hP
  obtain ⟨hcalls, hrest, hpre⟩ := hP
  obtain ⟨-, -, -, hnamed, -, -, -, hat⟩ := (Spec.applies_iff hf).mp happ
  obtain ⟨hg, hn⟩ := and_e (Cond.before_iff.mp (show (Jvm.Cond.and given_1 narrow_1).before args s = true from hpre))
  obtain ⟨hq0, hg0⟩ := and_e hg
  obtain ⟨hq1, hg1⟩ := and_e hg0
  obtain ⟨hq2, hg2⟩ := and_e hg1
  obtain ⟨hq3, hg3⟩ := and_e hg2
  obtain ⟨w0, w1, w2, w3, rfl⟩ : ∃ w0 w1 w2 w3 : Value, args = #[w0, w1, w2, w3] := by
    have hs : args.size = 4 := by simpa [Cond.value, given_1] using hq0
    obtain ⟨L⟩ := args
    match L, hs with
    | [w0, w1, w2, w3], _ => exact ⟨w0, w1, w2, w3, rfl⟩
  have hw := fun d (hd : d ∈ tables_1) => atoms_spec (ws := Jvm.Cond.code x code maxLocals ret :: tables_1) hat d (List.mem_cons_of_mem _ hd)
  have hfit : Fit s := fun {y c} hc i hi => by
    obtain ⟨ha, rfl⟩ := Array.getElem?_eq_some_iff.mp hc
    have q := List.all_eq_true.mp ((Array.all_eq_true_iff_forall_mem.mp hF) _ (Array.getElem_mem ha)) i (List.mem_range.mpr hi)
    simpa [Array.getElem?_eq_getElem hi] using q
  obtain ⟨i0, ei0⟩ := isL_v hq1
  obtain rfl : w0 = (.long i0) := Option.some.inj ei0
  obtain ⟨i1, ei1⟩ := isL_v hq2
  obtain rfl : w1 = (.long i1) := Option.some.inj ei1
  obtain ⟨i2, ei2⟩ := is_v hq3
  obtain rfl : w2 = (.int i2) := Option.some.inj ei2
  obtain ⟨i3, ei3⟩ := is_v hg3
  obtain rfl : w3 = (.int i3) := Option.some.inj ei3
  obtain ⟨n, o, h1, h2, h3, _, L, rfl, ⟨rfl, N⟩, hq⟩ := rm0 l s _ hw tables_1 i0 i1 i2 i3 s.heap s.heap.size (Nat.le_refl _)  p e ha hc hk s m _ below hf ((Spec.applies_iff_loose hf).mp happ).1 ⟨rfl, State.Warmed39.refl s, rfl⟩ trivial
  refine ⟨n, _, h1, h2, h3, hpost _ _ _ _ _ _ ⟨Cond.after_iff.mpr rfl, Cond.after_iff.mpr (eq_i res_at (Term.int_eval (1)) rfl), trivial⟩ ⟨hq.1, hq.2.1, (hq.2.2.sift fun y hy => Or.inr (N y hy)).mono (by decide) (by decide)⟩⟩
theorem main_1_1 : Claimed_1_1 := comes_1 fun _ _ _ _ _ _ h hF => ⟨h.1, hF⟩
theorem main_1_2 : Claimed_1_2 := comes_1 fun _ _ _ _ _ _ h hF => ⟨h.2.1, hF⟩
end Jvm.Pilot.@@N@@
namespace Jvm.Pilot.@@N@@
open Jvm Jvm.ClassFile Sem Op Lib Jvm.Free Jvm.Stand Jvm.Pilot.@@N@@.Jvm.D
/-! MADE BY PROGRAM (witnessworld.py) out of the Statement's table words and the real class files: 10 classes; the members and pool entries that the words name. The judged class is class 1, her method 1. -/
namespace start1
open Jvm.ClassFile
def u (s : String) : CpInfo := .utf8 (stringToUtf16 s)
/-- a pool by its gaps: so many unusable entries, then the entry; so many at the end -/
def gap : Nat → List CpInfo → List CpInfo
  | 0, r => r
  | n + 1, r => .unusable :: gap n r
def poolList (es : List (Nat × CpInfo)) (last : Nat) : List CpInfo := es.foldr (fun e r => gap e.1 (e.2 :: r)) (gap last [])
def pool (es : List (Nat × CpInfo)) (last : Nat) : Array CpInfo := ⟨poolList es last⟩
def fileOf (pool : Array CpInfo) (this : Nat) (attrs : Array Attribute := #[]) (ms : Array MethodInfo := #[]) (fl : Nat := 33) (sup : Nat := 0) (ifs : Array Nat := #[]) (fds : Array FieldInfo := #[]) : ClassFile where
  minorVersion := 0
  majorVersion := 65
  constantPool := pool
  accessFlags := fl
  thisClass := this
  superClass := sup
  interfaces := ifs
  fields := fds
  methods := ms
  attributes := attrs
def plain (name : String) (sup : Option ClassId) : Class where
  name := name
  kind := .ordinary
  loader := none
  accessFlags := 33
  super := sup
  interfaces := #[]
  cf := none
  fields := #[]
  methods := #[]
  instanceTypes := #[]
  staticTypes := #[]
  resolved := #[]
  callSites := []
  init := .initialized
  statics := none
  mirror := none

def pool0 : Array CpInfo := pool [(5, u "<init>"), (0, u "()V"), (1, .class_ 10), (1, u "java/lang/Object")] 113

def k0c0 : Code := { maxStack := 0, maxLocals := 1, code := object_method_1_code, exceptionTable := #[], attributes := #[] }
def k0m0 : Method := { name := "<init>", desc := "()V", sig := { parameters := [], returnType := none }, accessFlags := 1, code := some k0c0 }
/-- java/lang/Object -/
def k0 : Class := { plain "java/lang/Object" none with
  accessFlags := 33
  interfaces := #[]
  cf := some (fileOf pool0 8 #[] #[{ accessFlags := 1, nameIndex := 5, descriptorIndex := 6, attributes := #[] }] 33 0 #[] #[])
  fields := #[]
  methods := #[k0m0]
  instanceTypes := #[]
  staticTypes := #[]
  resolved := Array.replicate 124 none
  statics := none }

def pool1 : Array CpInfo := pool [(2, .class_ 4), (1, u "java/lang/Object"), (0, u "<init>"), (0, u "()V"), (0, .class_ 8), (0, u "com/example/libhorn/libhorn/measures/Ratio"), (0, .methodref 7 10), (0, .nameAndType 5 11), (0, u "(JJ)V"), (0, .methodref 7 13), (0, .nameAndType 14 15), (0, u "value"), (0, u "()D"), (2, .long 9223372036854775808), (1, .long 2), (1, .class_ 23), (0, u "com/example/libhorn/libhorn/measures/RatioValuePinLaw"), (2, u "law"), (0, u "(JJII)Z")] 3

def k1m0 : Method := { name := "<init>", desc := "()V", sig := { parameters := [], returnType := none }, accessFlags := 1, code := none }
def k1c1 : Code := { maxStack := 6, maxLocals := 25, code := code, exceptionTable := #[], attributes := #[] }
def k1m1 : Method := { name := "law", desc := "(JJII)Z", sig := { parameters := [.long, .long, .int, .int], returnType := some .boolean }, accessFlags := 9, code := some k1c1 }
/-- com/example/libhorn/libhorn/measures/RatioValuePinLaw -/
def k1 : Class := { plain "com/example/libhorn/libhorn/measures/RatioValuePinLaw" (some 0) with
  accessFlags := 49
  interfaces := #[]
  cf := some (fileOf pool1 22 #[] #[{ accessFlags := 1, nameIndex := 5, descriptorIndex := 6, attributes := #[] }, { accessFlags := 9, nameIndex := 26, descriptorIndex := 27, attributes := #[] }] 49 2 #[] #[])
  fields := #[]
  methods := #[k1m0, k1m1]
  instanceTypes := #[]
  staticTypes := #[]
  resolved := Array.replicate 31 none
  statics := none }

def pool2 : Array CpInfo := pool [(1, .methodref 2 3), (0, .class_ 4), (0, .nameAndType 5 6), (0, u "java/lang/Object"), (0, u "<init>"), (0, u "()V"), (0, .class_ 8), (0, u "java/lang/Record")] 13

def k2c0 : Code := { maxStack := 1, maxLocals := 1, code := jdk_30_method_1_code, exceptionTable := #[], attributes := #[] }
def k2m0 : Method := { name := "<init>", desc := "()V", sig := { parameters := [], returnType := none }, accessFlags := 4, code := some k2c0 }
/-- java/lang/Record -/
def k2 : Class := { plain "java/lang/Record" (some 0) with
  accessFlags := 1057
  interfaces := #[]
  cf := some (fileOf pool2 7 #[] #[{ accessFlags := 4, nameIndex := 5, descriptorIndex := 6, attributes := #[] }] 1057 2 #[] #[])
  fields := #[]
  methods := #[k2m0]
  instanceTypes := #[]
  staticTypes := #[]
  resolved := Array.replicate 22 none
  statics := none }

def pool3 : Array CpInfo := pool [(1, .methodref 2 3), (0, .class_ 4), (0, .nameAndType 5 6), (0, u "java/lang/Record"), (0, u "<init>"), (0, u "()V"), (0, .fieldref 8 9), (0, .class_ 10), (0, .nameAndType 11 12), (0, u "com/example/libhorn/libhorn/measures/Ratio"), (0, u "numerator"), (0, u "J"), (0, .fieldref 8 14), (0, .nameAndType 15 12), (0, u "denominator"), (2, .double 9221120237041090560), (13, u "(JJ)V"), (3, u "value"), (0, u "()D")] 26

def k3c0 : Code := { maxStack := 3, maxLocals := 5, code := prog_62_method_1_code, exceptionTable := #[], attributes := #[] }
def k3m0 : Method := { name := "<init>", desc := "(JJ)V", sig := { parameters := [.long, .long], returnType := none }, accessFlags := 1, code := some k3c0 }
def k3c1 : Code := { maxStack := 4, maxLocals := 1, code := prog_62_method_2_code, exceptionTable := #[], attributes := #[] }
def k3m1 : Method := { name := "value", desc := "()D", sig := { parameters := [], returnType := some .double }, accessFlags := 1, code := some k3c1 }
/-- com/example/libhorn/libhorn/measures/Ratio -/
def k3 : Class := { plain "com/example/libhorn/libhorn/measures/Ratio" (some 2) with
  accessFlags := 49
  interfaces := #[]
  cf := some (fileOf pool3 8 #[] #[{ accessFlags := 1, nameIndex := 5, descriptorIndex := 32, attributes := #[] }, { accessFlags := 1, nameIndex := 36, descriptorIndex := 37, attributes := #[] }] 49 2 #[] #[{ accessFlags := 18, nameIndex := 11, descriptorIndex := 12, attributes := #[] }, { accessFlags := 18, nameIndex := 15, descriptorIndex := 12, attributes := #[] }])
  fields := #[{ name := "numerator", type := .long, accessFlags := 18, slot := 0, constantValue := 0 }, { name := "denominator", type := .long, accessFlags := 18, slot := 1, constantValue := 0 }]
  methods := #[k3m0, k3m1]
  instanceTypes := #[.long, .long]
  staticTypes := #[]
  resolved := Array.replicate 64 none
  statics := none }

def pool4 : Array CpInfo := pool [(1, u "java/lang/Cloneable"), (0, .class_ 1), (0, u "java/lang/Object"), (0, .class_ 3)] 3

/-- java/lang/Cloneable -/
def k4 : Class := { plain "java/lang/Cloneable" (some 0) with
  accessFlags := 1537
  interfaces := #[]
  cf := some (fileOf pool4 2 #[] #[] 1537 4 #[] #[])
  fields := #[]
  methods := #[]
  instanceTypes := #[]
  staticTypes := #[]
  resolved := Array.replicate 8 none
  statics := none }

def pool5 : Array CpInfo := pool [(1, u "java/io/Serializable"), (0, .class_ 1), (0, u "java/lang/Object"), (0, .class_ 3)] 3

/-- java/io/Serializable -/
def k5 : Class := { plain "java/io/Serializable" (some 0) with
  accessFlags := 1537
  interfaces := #[]
  cf := some (fileOf pool5 2 #[] #[] 1537 4 #[] #[])
  fields := #[]
  methods := #[]
  instanceTypes := #[]
  staticTypes := #[]
  resolved := Array.replicate 8 none
  statics := none }

/-- the primitive byte -/
def k6 : Class := { plain "byte" none with kind := .primitive 'B', accessFlags := 0x411 }
/-- [B -/
def k7 : Class := { plain "[B" (some 0) with kind := .array 6 .byte, interfaces := #[4, 5], accessFlags := 1041 }

/-- the primitive int -/
def k8 : Class := { plain "int" none with kind := .primitive 'I', accessFlags := 0x411 }
/-- [I -/
def k9 : Class := { plain "[I" (some 0) with kind := .array 8 .int, interfaces := #[4, 5], accessFlags := 1041 }

def heap : Heap := #[]
def classes : Array Class := #[k0, k1, k2, k3, k4, k5, k6, k7, k8, k9]
def interned : List (Array UInt16 × Addr) := []
def slotsUsed : Nat := 0
def theMethod : MethodId := ⟨1, 1⟩
def args0 : Array Value := #[.long 3, .long 4, .int 300, .int 700]
def aboutOver (below : List Frame) : State where
  vm := { classes := classes, interned := interned.toArray }
  heap := heap
  slotsUsed := slotsUsed
  threads := #[{ frames := .invoking theMethod args0 :: below }]
def below0 : List Frame := [.native { method := ⟨0, 0⟩, args := #[] }]
def about1 : State := aboutOver below0
def p0 : Program := .bare "" "" ""
def e0 : Env := launch0.env 0 0 0
theorem w_frames : about1.frames = Frame.invoking theMethod args0 :: below0 := rfl
set_option maxRecDepth 65536 in
theorem w_args : argsFit about1.vm theMethod args0 = true := by decide +kernel
set_option maxRecDepth 65536 in
theorem w_heap : heapFits about1 = true := by decide +kernel
set_option maxRecDepth 65536 in
theorem w_runnable : about1.curStatus? = some .runnable := by decide +kernel
set_option maxRecDepth 65536 in
theorem w_alone : about1.alone = true := by decide +kernel
set_option maxRecDepth 65536 in
theorem w_named : about1.methodNamed? x = some theMethod := by decide +kernel
set_option maxRecDepth 65536 in
theorem w_hears : about1.hears theMethod below0 = true := by decide +kernel
set_option maxRecDepth 65536 in
theorem w_ripe : about1.ripe theMethod args0 below0 = true := by decide +kernel
theorem w_running : about1.status = .running := rfl
set_option maxRecDepth 65536 in
theorem w_room : about1.hasRoom e0.platform room_1 = true :=
  launch0.hasRoom_least _ room_1 (by decide +kernel) (by decide +kernel) (by decide +kernel) (by decide +kernel) (by decide +kernel) (by decide +kernel)
theorem allAtoms_all (ts : List Jvm.Cond) (a : Array Jvm.Value) (st : Jvm.State) : (allAtoms ts).before a st = ts.all (fun c => c.before a st) := by
  induction ts with
  | nil => rfl
  | cons c t ih =>
    show (Jvm.Cond.and c (allAtoms t)).before a st = _
    rw [Jvm.Cond.before_and, ih, List.all_cons]
def words1 : List Jvm.Cond := Jvm.Cond.code x code maxLocals ret :: tables_1
/-- a 'code' word, met by the world's own term for the bytes: nothing is compared byte by byte -/
theorem code_word {y : MethodName} {bytes : ByteArray} {mx : Nat} {rt : Option FieldType} {a : Array Value} {s : State} {m : MethodId} {meth : Method} {c : Code} (h1 : s.methodNamed? y = some m) (h2 : s.vm.method? m = some meth) (h3 : meth.code = some c) (h4 : c.code = bytes)
    (h5 : (c.maxLocals == mx && c.exceptionTable.isEmpty && decide (c.maxStack ≤ mostOperands) && decide (meth.sig.returnType = rt) && !meth.locks && decide (parseMethodDescriptor y.desc = some meth.sig)) = true) : (Jvm.Cond.code y bytes mx rt).before a s = true := by
  simp only [Bool.and_eq_true, beq_iff_eq, Bool.not_eq_true', decide_eq_true_eq] at h5
  obtain ⟨⟨⟨⟨⟨g1, g2⟩, g3⟩, g4⟩, g5⟩, g6⟩ := h5
  simp [Cond.before, Cond.holds, Cond.value, h1, h2, h3, h4, g1, g2, g3, g4, g5, g6]
def isCode : Jvm.Cond → Bool
  | .code _ _ _ _ => true
  | _ => false
theorem all_split {L : List Jvm.Cond} {P : Jvm.Cond → Bool} (h1 : L.all (fun c => isCode c || P c) = true) (h2 : ∀ c ∈ L.filter isCode, P c = true) : L.all P = true := by
  refine List.all_eq_true.mpr fun c hc => ?_
  have h := List.all_eq_true.mp h1 c hc
  rcases Bool.eq_false_or_eq_true (isCode c) with hi | hi
  · exact h2 c (List.mem_filter.mpr ⟨hc, hi⟩)
  · simpa [hi] using h
set_option maxRecDepth 65536 in
theorem w_c0 : (Jvm.Cond.code x code maxLocals ret).before args0 about1 = true := code_word (m := ⟨1, 1⟩) (meth := k1m1) (c := k1c1) (by decide +kernel) rfl rfl rfl (by decide +kernel)
set_option maxRecDepth 65536 in
theorem w_c1 : (Jvm.Cond.code ({ cls := "com/example/libhorn/libhorn/measures/Ratio", name := "<init>", desc := "(JJ)V" } : Jvm.MethodName) prog_62_method_1_code (5 : Nat) (Option.none : Option Jvm.ClassFile.FieldType)).before args0 about1 = true := code_word (m := ⟨3, 0⟩) (meth := k3m0) (c := k3c0) (by decide +kernel) rfl rfl rfl (by decide +kernel)
set_option maxRecDepth 65536 in
theorem w_c2 : (Jvm.Cond.code ({ cls := "java/lang/Record", name := "<init>", desc := "()V" } : Jvm.MethodName) jdk_30_method_1_code (1 : Nat) (Option.none : Option Jvm.ClassFile.FieldType)).before args0 about1 = true := code_word (m := ⟨2, 0⟩) (meth := k2m0) (c := k2c0) (by decide +kernel) rfl rfl rfl (by decide +kernel)
set_option maxRecDepth 65536 in
theorem w_c3 : (Jvm.Cond.code ({ cls := "java/lang/Object", name := "<init>", desc := "()V" } : Jvm.MethodName) object_method_1_code (1 : Nat) (Option.none : Option Jvm.ClassFile.FieldType)).before args0 about1 = true := code_word (m := ⟨0, 0⟩) (meth := k0m0) (c := k0c0) (by decide +kernel) rfl rfl rfl (by decide +kernel)
set_option maxRecDepth 65536 in
theorem w_c4 : (Jvm.Cond.code ({ cls := "com/example/libhorn/libhorn/measures/Ratio", name := "value", desc := "()D" } : Jvm.MethodName) prog_62_method_2_code (1 : Nat) (Option.some Jvm.ClassFile.FieldType.double)).before args0 about1 = true := code_word (m := ⟨3, 1⟩) (meth := k3m1) (c := k3c1) (by decide +kernel) rfl rfl rfl (by decide +kernel)
def codes1 : List Jvm.Cond := [Jvm.Cond.code x code maxLocals ret, Jvm.Cond.code ({ cls := "com/example/libhorn/libhorn/measures/Ratio", name := "<init>", desc := "(JJ)V" } : Jvm.MethodName) prog_62_method_1_code (5 : Nat) (Option.none : Option Jvm.ClassFile.FieldType), Jvm.Cond.code ({ cls := "java/lang/Record", name := "<init>", desc := "()V" } : Jvm.MethodName) jdk_30_method_1_code (1 : Nat) (Option.none : Option Jvm.ClassFile.FieldType), Jvm.Cond.code ({ cls := "java/lang/Object", name := "<init>", desc := "()V" } : Jvm.MethodName) object_method_1_code (1 : Nat) (Option.none : Option Jvm.ClassFile.FieldType), Jvm.Cond.code ({ cls := "com/example/libhorn/libhorn/measures/Ratio", name := "value", desc := "()D" } : Jvm.MethodName) prog_62_method_2_code (1 : Nat) (Option.some Jvm.ClassFile.FieldType.double)]
set_option maxRecDepth 65536 in
theorem codes_eq : words1.filter isCode = codes1 := rfl
theorem w_codes : ∀ c ∈ words1.filter isCode, c.before args0 about1 = true := by
  rw [codes_eq]
  intro c hc
  simp only [codes1, List.mem_cons, List.not_mem_nil, or_false] at hc
  rcases hc with rfl | rfl | rfl | rfl | rfl
  · exact w_c0
  · exact w_c1
  · exact w_c2
  · exact w_c3
  · exact w_c4
set_option maxRecDepth 65536 in
theorem w_t1 : (words1.take 24).all (fun c => isCode c || c.before args0 about1) = true := by decide +kernel
set_option maxRecDepth 65536 in
theorem w_t2 : (words1.drop 24).all (fun c => isCode c || c.before args0 about1) = true := by decide +kernel
theorem w_tables : (allAtoms (Jvm.Cond.code x code maxLocals ret :: tables_1)).before args0 about1 = true := by
  rw [allAtoms_all]
  show words1.all (fun c => c.before args0 about1) = true
  refine all_split ?_ w_codes
  rw [← List.take_append_drop 24 words1, List.all_append, w_t1, w_t2]
  rfl
set_option maxRecDepth 65536 in
theorem w_case : (Jvm.Cond.and given_1 narrow_1).before args0 about1 = true := by decide +kernel
theorem w_applies : (headSpec (Jvm.Cond.code x code maxLocals ret :: tables_1) room_1).applies x e0.platform about1 = true :=
  (Spec.applies_iff w_frames).mpr ⟨w_running, w_runnable, w_alone, w_named, w_hears, w_ripe, w_room, w_tables⟩
theorem atStart : AtStart classFile x code maxLocals ret World_1 tables_1 room_1 Calls_1 rest_1 Pre_1 launch0 p0 e0 about1 theMethod args0 below0 :=
  ⟨lists_1, trivial, launch0.admits_env _ _ _, launch0.least_env, fairChoices_fair.cas, fairChoices_fair.clock, w_frames, w_args, w_heap, w_applies, trivial, trivial, w_case⟩
end start1
theorem witness_1 : WitnessClaimed_1 := ⟨start1.p0, start1.e0, start1.about1, start1.theMethod, start1.args0, start1.below0, start1.atStart⟩
end Jvm.Pilot.@@N@@
