import JvmDerived
import JvmDerived.Pilot.@@N@@Statement
import JvmDerived.Pilot.@@N@@Code
set_option linter.unusedVariables false
set_option linter.unusedSimpArgs false
namespace Jvm.Pilot.@@N@@
open Jvm Jvm.ClassFile Sem Op Lib Jvm.Free Jvm.Stand Jvm.LawKit Jvm.RoadKit Bundle Jvm.Pilot.@@N@@.Jvm.D
section Own
variable {p : Program} {l : Launch} {e : Env} {R : Room} {s : State} {m : MethodId} {args : Array Value} {below : List Frame} {meth : Method} {c : Code} {T : State} {locs : List Loc} {cells slots : Nat}
/-- from U the run comes to an end of which Q holds -/
def OwnEnds (tb : Tables) (e : Env) (below : List Frame) (Q : Outcome → State → Prop) (U : State) : Prop :=
  ∃ s₂ o, Steps tb e below U s₂ ∧ s₂.status = .running ∧ Ended s₂ below o ∧ Q o s₂
abbrev OwnQ (s : State) (K N : Nat) (Q : Option Value → Heap → List Loc → Prop) : Outcome → State → Prop :=
  fun o U => ∃ v L, o = .returned v ∧ Q v U.heap L ∧ FrameEnd s o U L K N
theorem own_via {tb : Tables} {Q : Outcome → State → Prop} {U U' : State} (h : ∀ t, Steps tb e below U' t → Steps tb e below U t) (k : OwnEnds tb e below Q U') : OwnEnds tb e below Q U := by
  obtain ⟨s₂, o, h1, h2⟩ := k
  exact ⟨s₂, o, h _ h1, h2⟩
theorem own_of {tb : Tables} {Q : Outcome → State → Prop} {U U' : State} (h : Steps tb e below U U') (k : OwnEnds tb e below Q U') : OwnEnds tb e below Q U :=
  own_via (fun _ q => h.trans q) k
theorem own_wide {K N : Nat} (X : Stand p l e R s m args below meth c T locs cells slots) (h1 : cells ≤ K) (h2 : slots ≤ N) : Stand p l e R s m args below meth c T locs K N :=
  { X with same := X.same.mono h1 h2 }
theorem own_ret (X : Stand p l e R s m args below meth c T locs cells slots) {Q : Option Value → Heap → List Loc → Prop} {K N : Nat} {v : Option Value} (hv : meth.sig.returnType = none → v = none) (hlk : meth.locks = false) {f : JFrame}
    (st : ∀ fs, (∀ (f : JFrame) (acts : List Action), f.method = m → f.locked = none → f.entered = [] → (doReturn e (T.setTop f) acts v).1 = T.setFrames fs) → Steps p.tables e below (T.setTop f) (T.setFrames fs))
    (hQ : Q v T.heap locs) (hK : cells ≤ K) (hN : slots ≤ N) : OwnEnds p.tables e below (OwnQ s K N Q) (T.setTop f) := by
  obtain ⟨fs, hr, hrun, hended, hW, hsame⟩ := X.leave (v := v) hv hlk
  exact ⟨_, _, st fs hr, hrun, hended, _, _, rfl, hQ, ⟨_, rfl⟩, hW, hsame.mono hK hN⟩
theorem own_retI (X : Stand p l e R s m args below meth c T locs cells slots) (hx : p.tables.exec = Jvm.exec) {Q : Option Value → Heap → List Loc → Prop} {K N pc : Nat} {Ls : Array Slot} {z : Int32} {rest : List Value} (hret : meth.sig.returnType = some .int) (hlk : meth.locks = false) (hd : decode c.code pc = .ok (.ireturn, 1))
    (hQ : Q (some (.int z)) T.heap locs) (hK : cells ≤ K) (hN : slots ≤ N) : OwnEnds p.tables e below (OwnQ s K N Q) (T.setTop (mkF m pc Ls (.int z :: rest))) :=
  own_ret X (fun h => by rw [hret] at h; cases h) hlk (fun fs hl => retOut X hx hret rfl (Or.inl ⟨rfl, Or.inl rfl, z, rfl⟩) hd hl) hQ hK hN
theorem own_retN (X : Stand p l e R s m args below meth c T locs cells slots) (hx : p.tables.exec = Jvm.exec) {Q : Option Value → Heap → List Loc → Prop} {K N pc : Nat} {Ls : Array Slot} {z : Int32} {t : FieldType} {rest : List Value} (hret : meth.sig.returnType = some t) (ht : t = .boolean ∨ t = .byte ∨ t = .char ∨ t = .short) (hlk : meth.locks = false) (hd : decode c.code pc = .ok (.ireturn, 1))
    (hQ : Q (some (.int (nar t z))) T.heap locs) (hK : cells ≤ K) (hN : slots ≤ N) : OwnEnds p.tables e below (OwnQ s K N Q) (T.setTop (mkF m pc Ls (.int z :: rest))) :=
  own_ret X (fun h => by rw [hret] at h; cases h) hlk (fun fs hl => retN X hx hret ht hd hl) hQ hK hN
theorem own_retJ (X : Stand p l e R s m args below meth c T locs cells slots) (hx : p.tables.exec = Jvm.exec) {Q : Option Value → Heap → List Loc → Prop} {K N pc : Nat} {Ls : Array Slot} {z : Int64} {rest : List Value} (hret : meth.sig.returnType = some .long) (hlk : meth.locks = false) (hd : decode c.code pc = .ok (.lreturn, 1))
    (hQ : Q (some (.long z)) T.heap locs) (hK : cells ≤ K) (hN : slots ≤ N) : OwnEnds p.tables e below (OwnQ s K N Q) (T.setTop (mkF m pc Ls (.long z :: rest))) :=
  own_ret X (fun h => by rw [hret] at h; cases h) hlk (fun fs hl => retOut X hx hret rfl (Or.inr (Or.inl ⟨rfl, rfl, z, rfl⟩)) hd hl) hQ hK hN
theorem own_retA (X : Stand p l e R s m args below meth c T locs cells slots) (hx : p.tables.exec = Jvm.exec) {Q : Option Value → Heap → List Loc → Prop} {K N pc : Nat} {Ls : Array Slot} {w : Value} {t : FieldType} {rest : List Value} (hret : meth.sig.returnType = some t) (ht : t.isReference = true) (hw : w.isRef = true) (hlk : meth.locks = false) (hd : decode c.code pc = .ok (.areturn, 1))
    (hQ : Q (some w) T.heap locs) (hK : cells ≤ K) (hN : slots ≤ N) : OwnEnds p.tables e below (OwnQ s K N Q) (T.setTop (mkF m pc Ls (w :: rest))) :=
  own_ret X (fun h => by rw [hret] at h; cases h) hlk (fun fs hl => retOut X hx hret (by cases t <;> first | (cases ht; done) | (cases w <;> first | rfl | (cases hw; done))) (Or.inr (Or.inr (Or.inr (Or.inr ⟨rfl, ht, hw⟩)))) hd hl) hQ hK hN
theorem own_retV (X : Stand p l e R s m args below meth c T locs cells slots) (hx : p.tables.exec = Jvm.exec) {Q : Option Value → Heap → List Loc → Prop} {K N pc : Nat} {Ls : Array Slot} (hret : meth.sig.returnType = none) (hlk : meth.locks = false) (hd : decode c.code pc = .ok (.return_, 1))
    (hQ : Q none T.heap locs) (hK : cells ≤ K) (hN : slots ≤ N) : OwnEnds p.tables e below (OwnQ s K N Q) (T.setTop (mkF m pc Ls [])) :=
  own_ret X (fun _ => rfl) hlk (fun fs hl => X.returnOut hx hret hd hl) hQ hK hN
theorem own_lc_lt_t {x y : Int64} (h : x < y) : ifCond.holds .lt (lcmpW x y) = true ∧ ifCond.holds .ge (lcmpW x y) = false := by
  have q : lcmpW x y < 0 := by rw [lcW, lc_lt]; exact h
  exact ⟨(if0 _ _).trans (tlt q).1, (if0 _ _).trans (tlt q).2.1⟩
theorem own_lc_lt_f {x y : Int64} (h : ¬ (x < y)) : ifCond.holds .lt (lcmpW x y) = false ∧ ifCond.holds .ge (lcmpW x y) = true := by
  have q : ¬ lcmpW x y < 0 := by rw [lcW, lc_lt]; exact h
  exact ⟨(if0 _ _).trans (flt q).1, (if0 _ _).trans (flt q).2.1⟩
theorem own_lc_gt_t {x y : Int64} (h : y < x) : ifCond.holds .gt (lcmpW x y) = true ∧ ifCond.holds .le (lcmpW x y) = false := by
  have q : 0 < lcmpW x y := by rw [lcW, lc_gt]; exact h
  exact ⟨(if0 _ _).trans (tlt q).2.2.1, (if0 _ _).trans (tlt q).2.2.2⟩
theorem own_lc_gt_f {x y : Int64} (h : ¬ (y < x)) : ifCond.holds .gt (lcmpW x y) = false ∧ ifCond.holds .le (lcmpW x y) = true := by
  have q : ¬ 0 < lcmpW x y := by rw [lcW, lc_gt]; exact h
  exact ⟨(if0 _ _).trans (flt q).2.2.1, (if0 _ _).trans (flt q).2.2.2⟩
theorem own_lc_eq_t {x y : Int64} (h : x = y) : ifCond.holds .eq (lcmpW x y) = true ∧ ifCond.holds .ne (lcmpW x y) = false := by
  have q : lcmpW x y = 0 := by rw [lcW, lc_eq]; exact h
  exact ⟨(if0 _ _).trans (teq q).1, (if0 _ _).trans (teq q).2⟩
theorem own_lc_eq_f {x y : Int64} (h : ¬ (x = y)) : ifCond.holds .eq (lcmpW x y) = false ∧ ifCond.holds .ne (lcmpW x y) = true := by
  have q : ¬ lcmpW x y = 0 := by rw [lcW, lc_eq]; exact h
  exact ⟨(if0 _ _).trans (feq q).1, (if0 _ _).trans (feq q).2⟩
theorem own_lrem {g : JFrame} {target : State} (X : Stand p l e R s m args below meth c T locs cells slots) (hx : p.tables.exec = Jvm.exec) (hg : g.method = m) {x y : Int64} {rest : List Value} (hd : decode c.code g.pc = .ok (.lrem, 1)) (hs : g.stack = .long y :: .long x :: rest) (hy : y ≠ 0)
    (hr : Steps p.tables e below (T.setTop { g with pc := g.pc + 1, stack := .long (x % y) :: rest }) target) : Steps p.tables e below (T.setTop g) target := by
  have q : x - x / y * y = x % y := lrem_mod x y
  exact XS.lrem X.here hx hg hd hs hy (by rw [q]; exact hr)
theorem own_cat {w : Value} (h : w.isRef = true) : w.category = 1 := by rcases ref_cases h with rfl | ⟨a, rfl⟩ <;> rfl
theorem own_narR {w : Value} {t : FieldType} (ht : t.isReference = true) (h : w.isRef = true) : narrow t w = w := by
  cases t <;> first | (cases ht; done) | (rcases ref_cases h with rfl | ⟨a, rfl⟩ <;> rfl)
theorem own_fitR {w : Value} {t : FieldType} (ht : t.isReference = true) (h : w.isRef = true) : fits t w = true := by
  cases t <;> first | (cases ht; done) | (rcases ref_cases h with rfl | ⟨a, rfl⟩ <;> rfl)
theorem own_narb {c : Prop} [Decidable c] {r : Int32} (h : r = if c then 0 else 1) : nar .boolean r = r := by
  by_cases q : c
  · rw [if_pos q] at h; rw [h]; rfl
  · rw [if_neg q] at h; rw [h]; rfl
/-! arrays as lists of values -/
def AL (Z : State) (h : Heap) (a : Addr) (ty : FieldType) (xs : List Value) : Prop := ∃ c : Cell, Arr Z h a c ty ∧ c.slots.toList = xs ∧ xs.length < 2147483648
variable {Z : State} {h h' : Heap} {a b : Addr} {ty : FieldType} {xs : List Value} {sl : Nat} {v : Value} {ws : List Addr} {C n d : String}
theorem AL.lt (F : AL Z h a ty xs) : a < h.size := by obtain ⟨c, A, -⟩ := F; exact A.lt
theorem AL.ext (F : AL Z h a ty xs) (E : Ext h h') : AL Z h' a ty xs := by obtain ⟨c, A, r⟩ := F; exact ⟨c, A.ext E, r⟩
theorem AL.other (F : AL Z h a ty xs) (W : Wr h h' b sl v) (q : a ≠ b) : AL Z h' a ty xs := by obtain ⟨c, A, r⟩ := F; exact ⟨c, A.other W q, r⟩
theorem AL.keep (F : AL Z h a ty xs) (K : Keep h h' ws) (q : a ∉ ws) : AL Z h' a ty xs := by obtain ⟨c, A, r⟩ := F; exact ⟨c, ⟨K.2.1 a c A.1 q, A.2⟩, r⟩
theorem AL.new {k : ClassId} {z : Int32} (A : Arr Z h a (newA k ty z) ty) (q : ¬ z < 0) {i : Nat} (hi : z.toNatClampNeg = i) : AL Z h a ty (List.replicate i (defaultValue ty)) := by
  refine ⟨_, A, ?_, ?_⟩
  · simp [newA, hi]
  · rw [List.length_replicate, ← hi]; exact (back32 q).2
theorem AL.ne {C : String} (F : AL Z h a ty xs) (G : Exa Z h b C) {a0 : Array Value} {k : Nat} (wi : (Cond.instantiable C k).before a0 Z = true) : b ≠ a := by
  obtain ⟨c, A, -⟩ := F; exact ne_arr G wi A
theorem own_idx {cl : Cell} (hc : cl.slots.toList = xs) {j : Int32} {i : Nat} (hj : j.toInt = i) (hi : i < xs.length) : ¬ (j < 0 ∨ cl.slots.size ≤ j.toNatClampNeg) ∧ j.toNatClampNeg = i := by
  have h1 : j.toNatClampNeg = i := by simp only [Int32.toNatClampNeg, hj]; rfl
  have h2 : cl.slots.size = xs.length := by rw [← hc]; simp
  refine ⟨fun q => ?_, h1⟩
  rcases q with q | q
  · rw [Int32.lt_iff_toInt_lt, hj] at q; have e0 : (0 : Int32).toInt = 0 := rfl; omega
  · omega
theorem own_at {cl : Cell} (hc : cl.slots.toList = xs) {i : Nat} : cl.slots[i]? = xs[i]? := by rw [← hc]; simp
theorem AL.set {cl : Cell} (A : Arr Z h a cl ty) (hc : cl.slots.toList = xs) (hl : xs.length < 2147483648) {i : Nat} (W : Wr h h' a i v) : AL Z h' a ty (xs.set i v) := by
  refine ⟨_, A.same W, ?_, by simpa using hl⟩
  simp [Cell.setSlot, hc]
theorem own_stI (X : Stand p l e R s m args below meth c T locs cells slots) (hx : p.tables.exec = Jvm.exec) (hZ : Z.Warmed39 s.vm) (eT : T.heap = h) (A : AL Z h a .int xs) {j x : Int32} (i : Nat) (hj : j.toInt = i) (hi : i < xs.length) {g : JFrame} (hg : g.method = m) {rest : List Value} (hs : g.stack = .int x :: .int j :: .ref a :: rest) (hd : decode c.code g.pc = .ok (.iastore, 1)) :
    ∃ T' h', Stand p l e R s m args below meth c T' (locs ++ [⟨a, i⟩]) cells slots ∧ T'.heap = h' ∧ Wr h h' a i (.int x) ∧ AL Z h' a .int (xs.set i (.int x)) ∧ ∀ target, Steps p.tables e below (T'.setTop { g with pc := g.pc + 1, stack := rest }) target → Steps p.tables e below (T.setTop g) target := by
  obtain ⟨cl, A1, A2, A3⟩ := A
  obtain ⟨q1, q2⟩ := own_idx A2 hj hi
  obtain ⟨T', h', X', e', W, st⟩ := stI X hx hZ eT A1 q1 hg hs hd
  rw [q2] at X' W
  exact ⟨T', h', X', e', W, AL.set A1 A2 A3 W, st⟩
theorem own_stJ (X : Stand p l e R s m args below meth c T locs cells slots) (hx : p.tables.exec = Jvm.exec) (hZ : Z.Warmed39 s.vm) (eT : T.heap = h) (A : AL Z h a .long xs) {j : Int32} {x : Int64} (i : Nat) (hj : j.toInt = i) (hi : i < xs.length) {g : JFrame} (hg : g.method = m) {rest : List Value} (hs : g.stack = .long x :: .int j :: .ref a :: rest) (hd : decode c.code g.pc = .ok (.lastore, 1)) :
    ∃ T' h', Stand p l e R s m args below meth c T' (locs ++ [⟨a, i⟩]) cells slots ∧ T'.heap = h' ∧ Wr h h' a i (.long x) ∧ AL Z h' a .long (xs.set i (.long x)) ∧ ∀ target, Steps p.tables e below (T'.setTop { g with pc := g.pc + 1, stack := rest }) target → Steps p.tables e below (T.setTop g) target := by
  obtain ⟨cl, A1, A2, A3⟩ := A
  obtain ⟨q1, q2⟩ := own_idx A2 hj hi
  obtain ⟨T', h', X', e', W, st⟩ := stJ X hx hZ eT A1 q1 hg hs hd
  rw [q2] at X' W
  exact ⟨T', h', X', e', W, AL.set A1 A2 A3 W, st⟩
theorem own_stB (X : Stand p l e R s m args below meth c T locs cells slots) (hx : p.tables.exec = Jvm.exec) (hZ : Z.Warmed39 s.vm) (eT : T.heap = h) (A : AL Z h a .byte xs) {j x : Int32} (i : Nat) (hj : j.toInt = i) (hi : i < xs.length) {g : JFrame} (hg : g.method = m) {rest : List Value} (hs : g.stack = .int x :: .int j :: .ref a :: rest) (hd : decode c.code g.pc = .ok (.bastore, 1)) :
    ∃ T' h', Stand p l e R s m args below meth c T' (locs ++ [⟨a, i⟩]) cells slots ∧ T'.heap = h' ∧ Wr h h' a i (.int (nar .byte x)) ∧ AL Z h' a .byte (xs.set i (.int (nar .byte x))) ∧ ∀ target, Steps p.tables e below (T'.setTop { g with pc := g.pc + 1, stack := rest }) target → Steps p.tables e below (T.setTop g) target := by
  obtain ⟨cl, A1, A2, A3⟩ := A
  obtain ⟨q1, q2⟩ := own_idx A2 hj hi
  obtain ⟨T', h', X', e', W, st⟩ := stB X hx hZ eT A1 q1 hg hs hd
  rw [q2] at X' W
  exact ⟨T', h', X', e', W, AL.set A1 A2 A3 W, st⟩
theorem own_stZ (X : Stand p l e R s m args below meth c T locs cells slots) (hx : p.tables.exec = Jvm.exec) (hZ : Z.Warmed39 s.vm) (eT : T.heap = h) (A : AL Z h a .boolean xs) {j x : Int32} (i : Nat) (hj : j.toInt = i) (hi : i < xs.length) {g : JFrame} (hg : g.method = m) {rest : List Value} (hs : g.stack = .int x :: .int j :: .ref a :: rest) (hd : decode c.code g.pc = .ok (.bastore, 1)) :
    ∃ T' h', Stand p l e R s m args below meth c T' (locs ++ [⟨a, i⟩]) cells slots ∧ T'.heap = h' ∧ Wr h h' a i (.int (nar .boolean x)) ∧ AL Z h' a .boolean (xs.set i (.int (nar .boolean x))) ∧ ∀ target, Steps p.tables e below (T'.setTop { g with pc := g.pc + 1, stack := rest }) target → Steps p.tables e below (T.setTop g) target := by
  obtain ⟨cl, A1, A2, A3⟩ := A
  obtain ⟨q1, q2⟩ := own_idx A2 hj hi
  obtain ⟨T', h', X', e', W, st⟩ := stZ X hx hZ eT A1 q1 hg hs hd
  rw [q2] at X' W
  exact ⟨T', h', X', e', W, AL.set A1 A2 A3 W, st⟩
theorem own_stC (X : Stand p l e R s m args below meth c T locs cells slots) (hx : p.tables.exec = Jvm.exec) (hZ : Z.Warmed39 s.vm) (eT : T.heap = h) (A : AL Z h a .char xs) {j x : Int32} (i : Nat) (hj : j.toInt = i) (hi : i < xs.length) {g : JFrame} (hg : g.method = m) {rest : List Value} (hs : g.stack = .int x :: .int j :: .ref a :: rest) (hd : decode c.code g.pc = .ok (.castore, 1)) :
    ∃ T' h', Stand p l e R s m args below meth c T' (locs ++ [⟨a, i⟩]) cells slots ∧ T'.heap = h' ∧ Wr h h' a i (.int (nar .char x)) ∧ AL Z h' a .char (xs.set i (.int (nar .char x))) ∧ ∀ target, Steps p.tables e below (T'.setTop { g with pc := g.pc + 1, stack := rest }) target → Steps p.tables e below (T.setTop g) target := by
  obtain ⟨cl, A1, A2, A3⟩ := A
  obtain ⟨q1, q2⟩ := own_idx A2 hj hi
  obtain ⟨T', h', X', e', W, st⟩ := stC X hx hZ eT A1 q1 hg hs hd
  rw [q2] at X' W
  exact ⟨T', h', X', e', W, AL.set A1 A2 A3 W, st⟩
theorem own_lt_len {i : Nat} (hv : xs[i]? = some v) : i < xs.length := (List.getElem?_eq_some_iff.mp hv).1
theorem own_ldI (X : Stand p l e R s m args below meth c T locs cells slots) (hx : p.tables.exec = Jvm.exec) (hZ : Z.Warmed39 s.vm) (eT : T.heap = h) (A : AL Z h a .int xs) {j : Int32} (i : Nat) (hj : j.toInt = i) (hv : xs[i]? = some v) {g : JFrame} (hg : g.method = m) {rest : List Value} (hs : g.stack = .int j :: .ref a :: rest) (hd : decode c.code g.pc = .ok (.iaload, 1)) :
    ∀ target, Steps p.tables e below (T.setTop { g with pc := g.pc + 1, stack := v :: rest }) target → Steps p.tables e below (T.setTop g) target := by
  obtain ⟨cl, A1, A2, A3⟩ := A
  obtain ⟨q1, q2⟩ := own_idx A2 hj (own_lt_len hv)
  exact X.iaload hx (by rw [eT]; exact A1.1) (State.isArrayOf_alike hZ.alike A1.2.1) A1.2.2 q1 (by rw [q2, own_at A2]; exact hv) hg hs hd
theorem own_ldJ (X : Stand p l e R s m args below meth c T locs cells slots) (hx : p.tables.exec = Jvm.exec) (hZ : Z.Warmed39 s.vm) (eT : T.heap = h) (A : AL Z h a .long xs) {j : Int32} (i : Nat) (hj : j.toInt = i) (hv : xs[i]? = some v) {g : JFrame} (hg : g.method = m) {rest : List Value} (hs : g.stack = .int j :: .ref a :: rest) (hd : decode c.code g.pc = .ok (.laload, 1)) :
    ∀ target, Steps p.tables e below (T.setTop { g with pc := g.pc + 1, stack := v :: rest }) target → Steps p.tables e below (T.setTop g) target := by
  obtain ⟨cl, A1, A2, A3⟩ := A
  obtain ⟨q1, q2⟩ := own_idx A2 hj (own_lt_len hv)
  exact X.laload hx (by rw [eT]; exact A1.1) (State.isArrayOf_alike hZ.alike A1.2.1) A1.2.2 q1 (by rw [q2, own_at A2]; exact hv) hg hs hd
theorem own_ldB (X : Stand p l e R s m args below meth c T locs cells slots) (hx : p.tables.exec = Jvm.exec) (hZ : Z.Warmed39 s.vm) (eT : T.heap = h) (A : AL Z h a .byte xs) {j : Int32} (i : Nat) (hj : j.toInt = i) (hv : xs[i]? = some v) {g : JFrame} (hg : g.method = m) {rest : List Value} (hs : g.stack = .int j :: .ref a :: rest) (hd : decode c.code g.pc = .ok (.baload, 1)) :
    ∀ target, Steps p.tables e below (T.setTop { g with pc := g.pc + 1, stack := v :: rest }) target → Steps p.tables e below (T.setTop g) target := by
  obtain ⟨cl, A1, A2, A3⟩ := A
  obtain ⟨q1, q2⟩ := own_idx A2 hj (own_lt_len hv)
  exact X.baloadBytes hx (by rw [eT]; exact A1.1) (State.isArrayOf_alike hZ.alike A1.2.1) A1.2.2 q1 (by rw [q2, own_at A2]; exact hv) hg hs hd
theorem own_ldZ (X : Stand p l e R s m args below meth c T locs cells slots) (hx : p.tables.exec = Jvm.exec) (hZ : Z.Warmed39 s.vm) (eT : T.heap = h) (A : AL Z h a .boolean xs) {j : Int32} (i : Nat) (hj : j.toInt = i) (hv : xs[i]? = some v) {g : JFrame} (hg : g.method = m) {rest : List Value} (hs : g.stack = .int j :: .ref a :: rest) (hd : decode c.code g.pc = .ok (.baload, 1)) :
    ∀ target, Steps p.tables e below (T.setTop { g with pc := g.pc + 1, stack := v :: rest }) target → Steps p.tables e below (T.setTop g) target := by
  obtain ⟨cl, A1, A2, A3⟩ := A
  obtain ⟨q1, q2⟩ := own_idx A2 hj (own_lt_len hv)
  exact X.baloadBooleans hx (by rw [eT]; exact A1.1) (State.isArrayOf_alike hZ.alike A1.2.1) A1.2.2 q1 (by rw [q2, own_at A2]; exact hv) hg hs hd
theorem own_ldC (X : Stand p l e R s m args below meth c T locs cells slots) (hx : p.tables.exec = Jvm.exec) (hZ : Z.Warmed39 s.vm) (eT : T.heap = h) (A : AL Z h a .char xs) {j : Int32} (i : Nat) (hj : j.toInt = i) (hv : xs[i]? = some v) {g : JFrame} (hg : g.method = m) {rest : List Value} (hs : g.stack = .int j :: .ref a :: rest) (hd : decode c.code g.pc = .ok (.caload, 1)) :
    ∀ target, Steps p.tables e below (T.setTop { g with pc := g.pc + 1, stack := v :: rest }) target → Steps p.tables e below (T.setTop g) target := by
  obtain ⟨cl, A1, A2, A3⟩ := A
  obtain ⟨q1, q2⟩ := own_idx A2 hj (own_lt_len hv)
  exact X.caload hx (by rw [eT]; exact A1.1) (State.isArrayOf_alike hZ.alike A1.2.1) A1.2.2 q1 (by rw [q2, own_at A2]; exact hv) hg hs hd
theorem own_ldA (X : Stand p l e R s m args below meth c T locs cells slots) (hx : p.tables.exec = Jvm.exec) (hZ : Z.Warmed39 s.vm) (eT : T.heap = h) (A : AL Z h a ty xs) (hty : ty.isReference = true) {j : Int32} (i : Nat) (hj : j.toInt = i) (hv : xs[i]? = some v) {g : JFrame} (hg : g.method = m) {rest : List Value} (hs : g.stack = .int j :: .ref a :: rest) (hd : decode c.code g.pc = .ok (.aaload, 1)) :
    ∀ target, Steps p.tables e below (T.setTop { g with pc := g.pc + 1, stack := v :: rest }) target → Steps p.tables e below (T.setTop g) target := by
  obtain ⟨cl, A1, A2, A3⟩ := A
  obtain ⟨q1, q2⟩ := own_idx A2 hj (own_lt_len hv)
  exact X.aaload hx (by rw [eT]; exact A1.1) (State.isArrayOf_alike hZ.alike A1.2.1) hty A1.2.2 q1 (by rw [q2, own_at A2]; exact hv) hg hs hd
theorem own_len (X : Stand p l e R s m args below meth c T locs cells slots) (hx : p.tables.exec = Jvm.exec) (hZ : Z.Warmed39 s.vm) (eT : T.heap = h) (A : AL Z h a ty xs) {z : Int32} (hz : z.toInt = xs.length) {g : JFrame} (hg : g.method = m) {rest : List Value} (hs : g.stack = .ref a :: rest) (hd : decode c.code g.pc = .ok (.arraylength, 1)) :
    ∀ target, Steps p.tables e below (T.setTop { g with pc := g.pc + 1, stack := .int z :: rest }) target → Steps p.tables e below (T.setTop g) target := by
  obtain ⟨cl, A1, A2, A3⟩ := A
  have h2 : cl.slots.size = xs.length := by rw [← A2]; simp
  have e1 : cl.slots.size.toInt32 = z := Int32.toInt_inj.mp (by rw [len_toInt (by omega), hz, h2])
  intro target k
  exact X.arraylength hx (by rw [eT]; exact A1.1) (State.isArrayOf_alike hZ.alike A1.2.1) hg hs hd target (by rw [e1]; exact k)
end Own

theorem own_nar1 : nar .boolean (1 : Int32) = 1 := rfl
theorem own_nar0 : nar .boolean (0 : Int32) = 0 := rfl
def own_l (b : Int64) : Nat → Nat → List Value
  | _, 0 => []
  | k, n + 1 => .long (b + Int64.ofNat k) :: own_l b (k + 1) n
theorem own_ll (b : Int64) : ∀ n k, (own_l b k n).length = n
  | 0, _ => rfl
  | n + 1, k => by show (own_l b (k + 1) n).length + 1 = _; rw [own_ll b n]
theorem own_lat (b : Int64) : ∀ n k i, i < n → (own_l b k n)[i]? = some (.long (b + Int64.ofNat (k + i)))
  | 0, _, _, h => absurd h (Nat.not_lt_zero _)
  | n + 1, k, 0, _ => rfl
  | n + 1, k, i + 1, h => by
    show (own_l b (k + 1) n)[i]? = _
    rw [own_lat b n (k + 1) i (Nat.lt_of_succ_lt_succ h), Nat.add_right_comm]; rfl
def own_maxI (x y : Int32) : Int32 := if x < y then y else x
def own_lr (t : Int32) : Int32 := if 100 < t then if 200 < t then if 300 < t then if 400 < t then if 500 < t then if 600 < t then if 700 < t then 8 else 7 else 6 else 5 else 4 else 3 else 2 else 1
theorem own_fin : ∀ n : Fin 8, ∀ p : Fin 101, own_maxI ((((Int32.ofNat p.val).toInt64 * (Int32.ofNat (n.val + 1)).toInt64 + 99) / 100).toInt32) 1 = own_lr (Int32.ofNat p.val * Int32.ofNat (n.val + 1)) ∧ 1 ≤ (own_lr (Int32.ofNat p.val * Int32.ofNat (n.val + 1))).toInt ∧ (own_lr (Int32.ofNat p.val * Int32.ofNat (n.val + 1))).toInt ≤ n.val + 1 := by decide +kernel
theorem own_nn {x nn : Int32} (h : nn = 1 + (x &&& 7)) : ∃ n : Fin 8, nn = Int32.ofNat (n.val + 1) := by
  have h1 := c_and x 7 (by decide)
  have h2 := c_iadd 1 (x &&& 7)
  have e1 : (1 : Int32).toInt = 1 := rfl
  have e7 : (7 : Int32).toInt = 7 := rfl
  have h5 := (1 + (x &&& 7)).toInt_lt; have h6 := (1 + (x &&& 7)).le_toInt
  refine ⟨⟨(nn.toInt - 1).toNat, by rw [h]; omega⟩, Int32.toInt_inj.mp ?_⟩
  rw [Int32.toInt_ofNat_of_lt (by show (nn.toInt - 1).toNat + 1 < _; rw [h]; omega)]
  show _ = ((((nn.toInt - 1).toNat + 1 : Nat)) : Int)
  rw [h]; omega
theorem own_pp {x pp : Int32} (h : pp = (x &&& 2147483647) % 101) : ∃ p : Fin 101, pp = Int32.ofNat p.val := by
  have h1 := c_and x 2147483647 (by decide)
  have h2 := (c_irem (x &&& 2147483647) 101 101 rfl).1 h1.1
  refine ⟨⟨pp.toInt.toNat, by rw [h]; omega⟩, Int32.toInt_inj.mp ?_⟩
  rw [Int32.toInt_ofNat_of_lt (by show pp.toInt.toNat < _; rw [h]; omega)]
  show _ = ((pp.toInt.toNat : Nat) : Int)
  rw [h]; omega
theorem own_main {x y nn pp : Int32} (h : nn = 1 + (x &&& 7)) (h' : pp = (y &&& 2147483647) % 101) : ∃ (k ri : Nat), nn.toInt = k ∧ 1 ≤ k ∧ k ≤ 8 ∧ ri < k ∧ (own_maxI (((pp.toInt64 * nn.toInt64 + 99) / 100).toInt32) 1 - 1).toInt = ri ∧ (own_lr (pp * nn) - 1).toInt64 = Int64.ofNat ri := by
  obtain ⟨n, hn⟩ := own_nn h
  obtain ⟨p, hp⟩ := own_pp h'
  obtain ⟨q1, q2, q3⟩ := own_fin n p
  rw [← hn, ← hp] at q1 q2 q3
  have hn' : nn.toInt = ((n.val + 1 : Nat) : Int) := by rw [hn, Int32.toInt_ofNat_of_lt (by have := n.isLt; omega)]
  have e1 : (1 : Int32).toInt = 1 := rfl
  have s1 := c_isub (own_lr (pp * nn)) 1
  have s2 := (own_lr (pp * nn) - 1).toInt_lt; have s3 := (own_lr (pp * nn) - 1).le_toInt
  have hl := n.isLt
  have s4 : (own_lr (pp * nn) - 1).toInt = (((own_lr (pp * nn)).toInt - 1).toNat : Nat) := by omega
  refine ⟨n.val + 1, ((own_lr (pp * nn)).toInt - 1).toNat, hn', by omega, by omega, by omega, by rw [q1]; exact s4, ?_⟩
  refine Int64.toInt_inj.mp ?_
  rw [c_i2l, s4, Int64.toInt_ofNat_of_lt (by omega)]
theorem own_k8 {p : Int32} {k : Nat} (h : p.toInt = k) (h1 : 1 ≤ k) (h2 : k ≤ 8) : (p = 1 ∧ k = 1) ∨ (p = 2 ∧ k = 2) ∨ (p = 3 ∧ k = 3) ∨ (p = 4 ∧ k = 4) ∨ (p = 5 ∧ k = 5) ∨ (p = 6 ∧ k = 6) ∨ (p = 7 ∧ k = 7) ∨ (p = 8 ∧ k = 8) := by
  simp only [← Int32.toInt_inj, Int32.reduceToInt, h]
  omega
theorem own_l1 (b : Int64) : own_l b 0 1 = [.long b] := by
  show (Value.long (b + 0) :: _) = _
  rw [Int64.add_zero]; rfl
theorem own_l2 (b : Int64) : own_l b 0 2 = [.long b, .long (b + 1)] := by
  show (Value.long (b + 0) :: _) = _
  rw [Int64.add_zero]; rfl
theorem own_l3 (b : Int64) : own_l b 0 3 = [.long b, .long (b + 1), .long (b + 2)] := by
  show (Value.long (b + 0) :: _) = _
  rw [Int64.add_zero]; rfl
theorem own_l4 (b : Int64) : own_l b 0 4 = [.long b, .long (b + 1), .long (b + 2), .long (b + 3)] := by
  show (Value.long (b + 0) :: _) = _
  rw [Int64.add_zero]; rfl
theorem own_l5 (b : Int64) : own_l b 0 5 = [.long b, .long (b + 1), .long (b + 2), .long (b + 3), .long (b + 4)] := by
  show (Value.long (b + 0) :: _) = _
  rw [Int64.add_zero]; rfl
theorem own_l6 (b : Int64) : own_l b 0 6 = [.long b, .long (b + 1), .long (b + 2), .long (b + 3), .long (b + 4), .long (b + 5)] := by
  show (Value.long (b + 0) :: _) = _
  rw [Int64.add_zero]; rfl
theorem own_l7 (b : Int64) : own_l b 0 7 = [.long b, .long (b + 1), .long (b + 2), .long (b + 3), .long (b + 4), .long (b + 5), .long (b + 6)] := by
  show (Value.long (b + 0) :: _) = _
  rw [Int64.add_zero]; rfl
theorem own_l8 (b : Int64) : own_l b 0 8 = [.long b, .long (b + 1), .long (b + 2), .long (b + 3), .long (b + 4), .long (b + 5), .long (b + 6), .long (b + 7)] := by
  show (Value.long (b + 0) :: _) = _
  rw [Int64.add_zero]; rfl
theorem d1_0 : decode method_3_code 0 = .ok (.iload_n 0, 1) := by decide +kernel
theorem d1_1 : decode method_3_code 1 = .ok (.iconst 1, 1) := by decide +kernel
theorem d1_2 : decode method_3_code 2 = .ok (.if_icmp .ne 11, 3) := by decide +kernel
theorem d1_5 : decode method_3_code 5 = .ok (.iconst 1, 1) := by decide +kernel
theorem d1_6 : decode method_3_code 6 = .ok (.newarray .long, 2) := by decide +kernel
theorem d1_8 : decode method_3_code 8 = .ok (.dup, 1) := by decide +kernel
theorem d1_9 : decode method_3_code 9 = .ok (.iconst 0, 1) := by decide +kernel
theorem d1_10 : decode method_3_code 10 = .ok (.lload_n 1, 1) := by decide +kernel
theorem d1_11 : decode method_3_code 11 = .ok (.lastore, 1) := by decide +kernel
theorem d1_12 : decode method_3_code 12 = .ok (.areturn, 1) := by decide +kernel
theorem d1_13 : decode method_3_code 13 = .ok (.iload_n 0, 1) := by decide +kernel
theorem d1_14 : decode method_3_code 14 = .ok (.iconst 2, 1) := by decide +kernel
theorem d1_15 : decode method_3_code 15 = .ok (.if_icmp .ne 17, 3) := by decide +kernel
theorem d1_18 : decode method_3_code 18 = .ok (.iconst 2, 1) := by decide +kernel
theorem d1_19 : decode method_3_code 19 = .ok (.newarray .long, 2) := by decide +kernel
theorem d1_21 : decode method_3_code 21 = .ok (.dup, 1) := by decide +kernel
theorem d1_22 : decode method_3_code 22 = .ok (.iconst 0, 1) := by decide +kernel
theorem d1_23 : decode method_3_code 23 = .ok (.lload_n 1, 1) := by decide +kernel
theorem d1_24 : decode method_3_code 24 = .ok (.lastore, 1) := by decide +kernel
theorem d1_25 : decode method_3_code 25 = .ok (.dup, 1) := by decide +kernel
theorem d1_26 : decode method_3_code 26 = .ok (.iconst 1, 1) := by decide +kernel
theorem d1_27 : decode method_3_code 27 = .ok (.lload_n 1, 1) := by decide +kernel
theorem d1_28 : decode method_3_code 28 = .ok (.lconst 1, 1) := by decide +kernel
theorem d1_29 : decode method_3_code 29 = .ok (.ladd, 1) := by decide +kernel
theorem d1_30 : decode method_3_code 30 = .ok (.lastore, 1) := by decide +kernel
theorem d1_31 : decode method_3_code 31 = .ok (.areturn, 1) := by decide +kernel
theorem d1_32 : decode method_3_code 32 = .ok (.iload_n 0, 1) := by decide +kernel
theorem d1_33 : decode method_3_code 33 = .ok (.iconst 3, 1) := by decide +kernel
theorem d1_34 : decode method_3_code 34 = .ok (.if_icmp .ne 25, 3) := by decide +kernel
theorem d1_37 : decode method_3_code 37 = .ok (.iconst 3, 1) := by decide +kernel
theorem d1_38 : decode method_3_code 38 = .ok (.newarray .long, 2) := by decide +kernel
theorem d1_40 : decode method_3_code 40 = .ok (.dup, 1) := by decide +kernel
theorem d1_41 : decode method_3_code 41 = .ok (.iconst 0, 1) := by decide +kernel
theorem d1_42 : decode method_3_code 42 = .ok (.lload_n 1, 1) := by decide +kernel
theorem d1_43 : decode method_3_code 43 = .ok (.lastore, 1) := by decide +kernel
theorem d1_44 : decode method_3_code 44 = .ok (.dup, 1) := by decide +kernel
theorem d1_45 : decode method_3_code 45 = .ok (.iconst 1, 1) := by decide +kernel
theorem d1_46 : decode method_3_code 46 = .ok (.lload_n 1, 1) := by decide +kernel
theorem d1_47 : decode method_3_code 47 = .ok (.lconst 1, 1) := by decide +kernel
theorem d1_48 : decode method_3_code 48 = .ok (.ladd, 1) := by decide +kernel
theorem d1_49 : decode method_3_code 49 = .ok (.lastore, 1) := by decide +kernel
theorem d1_50 : decode method_3_code 50 = .ok (.dup, 1) := by decide +kernel
theorem d1_51 : decode method_3_code 51 = .ok (.iconst 2, 1) := by decide +kernel
theorem d1_52 : decode method_3_code 52 = .ok (.lload_n 1, 1) := by decide +kernel
theorem d1_53 : decode method_3_code 53 = .ok (.ldc2_w 24, 3) := by decide +kernel
theorem d1_56 : decode method_3_code 56 = .ok (.ladd, 1) := by decide +kernel
theorem d1_57 : decode method_3_code 57 = .ok (.lastore, 1) := by decide +kernel
theorem d1_58 : decode method_3_code 58 = .ok (.areturn, 1) := by decide +kernel
theorem d1_59 : decode method_3_code 59 = .ok (.iload_n 0, 1) := by decide +kernel
theorem d1_60 : decode method_3_code 60 = .ok (.iconst 4, 1) := by decide +kernel
theorem d1_61 : decode method_3_code 61 = .ok (.if_icmp .ne 33, 3) := by decide +kernel
theorem d1_64 : decode method_3_code 64 = .ok (.iconst 4, 1) := by decide +kernel
theorem d1_65 : decode method_3_code 65 = .ok (.newarray .long, 2) := by decide +kernel
theorem d1_67 : decode method_3_code 67 = .ok (.dup, 1) := by decide +kernel
theorem d1_68 : decode method_3_code 68 = .ok (.iconst 0, 1) := by decide +kernel
theorem d1_69 : decode method_3_code 69 = .ok (.lload_n 1, 1) := by decide +kernel
theorem d1_70 : decode method_3_code 70 = .ok (.lastore, 1) := by decide +kernel
theorem d1_71 : decode method_3_code 71 = .ok (.dup, 1) := by decide +kernel
theorem d1_72 : decode method_3_code 72 = .ok (.iconst 1, 1) := by decide +kernel
theorem d1_73 : decode method_3_code 73 = .ok (.lload_n 1, 1) := by decide +kernel
theorem d1_74 : decode method_3_code 74 = .ok (.lconst 1, 1) := by decide +kernel
theorem d1_75 : decode method_3_code 75 = .ok (.ladd, 1) := by decide +kernel
theorem d1_76 : decode method_3_code 76 = .ok (.lastore, 1) := by decide +kernel
theorem d1_77 : decode method_3_code 77 = .ok (.dup, 1) := by decide +kernel
theorem d1_78 : decode method_3_code 78 = .ok (.iconst 2, 1) := by decide +kernel
theorem d1_79 : decode method_3_code 79 = .ok (.lload_n 1, 1) := by decide +kernel
theorem d1_80 : decode method_3_code 80 = .ok (.ldc2_w 24, 3) := by decide +kernel
theorem d1_83 : decode method_3_code 83 = .ok (.ladd, 1) := by decide +kernel
theorem d1_84 : decode method_3_code 84 = .ok (.lastore, 1) := by decide +kernel
theorem d1_85 : decode method_3_code 85 = .ok (.dup, 1) := by decide +kernel
theorem d1_86 : decode method_3_code 86 = .ok (.iconst 3, 1) := by decide +kernel
theorem d1_87 : decode method_3_code 87 = .ok (.lload_n 1, 1) := by decide +kernel
theorem d1_88 : decode method_3_code 88 = .ok (.ldc2_w 26, 3) := by decide +kernel
theorem d1_91 : decode method_3_code 91 = .ok (.ladd, 1) := by decide +kernel
theorem d1_92 : decode method_3_code 92 = .ok (.lastore, 1) := by decide +kernel
theorem d1_93 : decode method_3_code 93 = .ok (.areturn, 1) := by decide +kernel
theorem d1_94 : decode method_3_code 94 = .ok (.iload_n 0, 1) := by decide +kernel
theorem d1_95 : decode method_3_code 95 = .ok (.iconst 5, 1) := by decide +kernel
theorem d1_96 : decode method_3_code 96 = .ok (.if_icmp .ne 41, 3) := by decide +kernel
theorem d1_99 : decode method_3_code 99 = .ok (.iconst 5, 1) := by decide +kernel
theorem d1_100 : decode method_3_code 100 = .ok (.newarray .long, 2) := by decide +kernel
theorem d1_102 : decode method_3_code 102 = .ok (.dup, 1) := by decide +kernel
theorem d1_103 : decode method_3_code 103 = .ok (.iconst 0, 1) := by decide +kernel
theorem d1_104 : decode method_3_code 104 = .ok (.lload_n 1, 1) := by decide +kernel
theorem d1_105 : decode method_3_code 105 = .ok (.lastore, 1) := by decide +kernel
theorem d1_106 : decode method_3_code 106 = .ok (.dup, 1) := by decide +kernel
theorem d1_107 : decode method_3_code 107 = .ok (.iconst 1, 1) := by decide +kernel
theorem d1_108 : decode method_3_code 108 = .ok (.lload_n 1, 1) := by decide +kernel
theorem d1_109 : decode method_3_code 109 = .ok (.lconst 1, 1) := by decide +kernel
theorem d1_110 : decode method_3_code 110 = .ok (.ladd, 1) := by decide +kernel
theorem d1_111 : decode method_3_code 111 = .ok (.lastore, 1) := by decide +kernel
theorem d1_112 : decode method_3_code 112 = .ok (.dup, 1) := by decide +kernel
theorem d1_113 : decode method_3_code 113 = .ok (.iconst 2, 1) := by decide +kernel
theorem d1_114 : decode method_3_code 114 = .ok (.lload_n 1, 1) := by decide +kernel
theorem d1_115 : decode method_3_code 115 = .ok (.ldc2_w 24, 3) := by decide +kernel
theorem d1_118 : decode method_3_code 118 = .ok (.ladd, 1) := by decide +kernel
theorem d1_119 : decode method_3_code 119 = .ok (.lastore, 1) := by decide +kernel
theorem d1_120 : decode method_3_code 120 = .ok (.dup, 1) := by decide +kernel
theorem d1_121 : decode method_3_code 121 = .ok (.iconst 3, 1) := by decide +kernel
theorem d1_122 : decode method_3_code 122 = .ok (.lload_n 1, 1) := by decide +kernel
theorem d1_123 : decode method_3_code 123 = .ok (.ldc2_w 26, 3) := by decide +kernel
theorem d1_126 : decode method_3_code 126 = .ok (.ladd, 1) := by decide +kernel
theorem d1_127 : decode method_3_code 127 = .ok (.lastore, 1) := by decide +kernel
theorem d1_128 : decode method_3_code 128 = .ok (.dup, 1) := by decide +kernel
theorem d1_129 : decode method_3_code 129 = .ok (.iconst 4, 1) := by decide +kernel
theorem d1_130 : decode method_3_code 130 = .ok (.lload_n 1, 1) := by decide +kernel
theorem d1_131 : decode method_3_code 131 = .ok (.ldc2_w 28, 3) := by decide +kernel
theorem d1_134 : decode method_3_code 134 = .ok (.ladd, 1) := by decide +kernel
theorem d1_135 : decode method_3_code 135 = .ok (.lastore, 1) := by decide +kernel
theorem d1_136 : decode method_3_code 136 = .ok (.areturn, 1) := by decide +kernel
theorem d1_137 : decode method_3_code 137 = .ok (.iload_n 0, 1) := by decide +kernel
theorem d1_138 : decode method_3_code 138 = .ok (.bipush 6, 2) := by decide +kernel
theorem d1_140 : decode method_3_code 140 = .ok (.if_icmp .ne 50, 3) := by decide +kernel
theorem d1_143 : decode method_3_code 143 = .ok (.bipush 6, 2) := by decide +kernel
theorem d1_145 : decode method_3_code 145 = .ok (.newarray .long, 2) := by decide +kernel
theorem d1_147 : decode method_3_code 147 = .ok (.dup, 1) := by decide +kernel
theorem d1_148 : decode method_3_code 148 = .ok (.iconst 0, 1) := by decide +kernel
theorem d1_149 : decode method_3_code 149 = .ok (.lload_n 1, 1) := by decide +kernel
theorem d1_150 : decode method_3_code 150 = .ok (.lastore, 1) := by decide +kernel
theorem d1_151 : decode method_3_code 151 = .ok (.dup, 1) := by decide +kernel
theorem d1_152 : decode method_3_code 152 = .ok (.iconst 1, 1) := by decide +kernel
theorem d1_153 : decode method_3_code 153 = .ok (.lload_n 1, 1) := by decide +kernel
theorem d1_154 : decode method_3_code 154 = .ok (.lconst 1, 1) := by decide +kernel
theorem d1_155 : decode method_3_code 155 = .ok (.ladd, 1) := by decide +kernel
theorem d1_156 : decode method_3_code 156 = .ok (.lastore, 1) := by decide +kernel
theorem d1_157 : decode method_3_code 157 = .ok (.dup, 1) := by decide +kernel
theorem d1_158 : decode method_3_code 158 = .ok (.iconst 2, 1) := by decide +kernel
theorem d1_159 : decode method_3_code 159 = .ok (.lload_n 1, 1) := by decide +kernel
theorem d1_160 : decode method_3_code 160 = .ok (.ldc2_w 24, 3) := by decide +kernel
theorem d1_163 : decode method_3_code 163 = .ok (.ladd, 1) := by decide +kernel
theorem d1_164 : decode method_3_code 164 = .ok (.lastore, 1) := by decide +kernel
theorem d1_165 : decode method_3_code 165 = .ok (.dup, 1) := by decide +kernel
theorem d1_166 : decode method_3_code 166 = .ok (.iconst 3, 1) := by decide +kernel
theorem d1_167 : decode method_3_code 167 = .ok (.lload_n 1, 1) := by decide +kernel
theorem d1_168 : decode method_3_code 168 = .ok (.ldc2_w 26, 3) := by decide +kernel
theorem d1_171 : decode method_3_code 171 = .ok (.ladd, 1) := by decide +kernel
theorem d1_172 : decode method_3_code 172 = .ok (.lastore, 1) := by decide +kernel
theorem d1_173 : decode method_3_code 173 = .ok (.dup, 1) := by decide +kernel
theorem d1_174 : decode method_3_code 174 = .ok (.iconst 4, 1) := by decide +kernel
theorem d1_175 : decode method_3_code 175 = .ok (.lload_n 1, 1) := by decide +kernel
theorem d1_176 : decode method_3_code 176 = .ok (.ldc2_w 28, 3) := by decide +kernel
theorem d1_179 : decode method_3_code 179 = .ok (.ladd, 1) := by decide +kernel
theorem d1_180 : decode method_3_code 180 = .ok (.lastore, 1) := by decide +kernel
theorem d1_181 : decode method_3_code 181 = .ok (.dup, 1) := by decide +kernel
theorem d1_182 : decode method_3_code 182 = .ok (.iconst 5, 1) := by decide +kernel
theorem d1_183 : decode method_3_code 183 = .ok (.lload_n 1, 1) := by decide +kernel
theorem d1_184 : decode method_3_code 184 = .ok (.ldc2_w 30, 3) := by decide +kernel
theorem d1_187 : decode method_3_code 187 = .ok (.ladd, 1) := by decide +kernel
theorem d1_188 : decode method_3_code 188 = .ok (.lastore, 1) := by decide +kernel
theorem d1_189 : decode method_3_code 189 = .ok (.areturn, 1) := by decide +kernel
theorem d1_190 : decode method_3_code 190 = .ok (.iload_n 0, 1) := by decide +kernel
theorem d1_191 : decode method_3_code 191 = .ok (.bipush 7, 2) := by decide +kernel
theorem d1_193 : decode method_3_code 193 = .ok (.if_icmp .ne 59, 3) := by decide +kernel
theorem d1_196 : decode method_3_code 196 = .ok (.bipush 7, 2) := by decide +kernel
theorem d1_198 : decode method_3_code 198 = .ok (.newarray .long, 2) := by decide +kernel
theorem d1_200 : decode method_3_code 200 = .ok (.dup, 1) := by decide +kernel
theorem d1_201 : decode method_3_code 201 = .ok (.iconst 0, 1) := by decide +kernel
theorem d1_202 : decode method_3_code 202 = .ok (.lload_n 1, 1) := by decide +kernel
theorem d1_203 : decode method_3_code 203 = .ok (.lastore, 1) := by decide +kernel
theorem d1_204 : decode method_3_code 204 = .ok (.dup, 1) := by decide +kernel
theorem d1_205 : decode method_3_code 205 = .ok (.iconst 1, 1) := by decide +kernel
theorem d1_206 : decode method_3_code 206 = .ok (.lload_n 1, 1) := by decide +kernel
theorem d1_207 : decode method_3_code 207 = .ok (.lconst 1, 1) := by decide +kernel
theorem d1_208 : decode method_3_code 208 = .ok (.ladd, 1) := by decide +kernel
theorem d1_209 : decode method_3_code 209 = .ok (.lastore, 1) := by decide +kernel
theorem d1_210 : decode method_3_code 210 = .ok (.dup, 1) := by decide +kernel
theorem d1_211 : decode method_3_code 211 = .ok (.iconst 2, 1) := by decide +kernel
theorem d1_212 : decode method_3_code 212 = .ok (.lload_n 1, 1) := by decide +kernel
theorem d1_213 : decode method_3_code 213 = .ok (.ldc2_w 24, 3) := by decide +kernel
theorem d1_216 : decode method_3_code 216 = .ok (.ladd, 1) := by decide +kernel
theorem d1_217 : decode method_3_code 217 = .ok (.lastore, 1) := by decide +kernel
theorem d1_218 : decode method_3_code 218 = .ok (.dup, 1) := by decide +kernel
theorem d1_219 : decode method_3_code 219 = .ok (.iconst 3, 1) := by decide +kernel
theorem d1_220 : decode method_3_code 220 = .ok (.lload_n 1, 1) := by decide +kernel
theorem d1_221 : decode method_3_code 221 = .ok (.ldc2_w 26, 3) := by decide +kernel
theorem d1_224 : decode method_3_code 224 = .ok (.ladd, 1) := by decide +kernel
theorem d1_225 : decode method_3_code 225 = .ok (.lastore, 1) := by decide +kernel
theorem d1_226 : decode method_3_code 226 = .ok (.dup, 1) := by decide +kernel
theorem d1_227 : decode method_3_code 227 = .ok (.iconst 4, 1) := by decide +kernel
theorem d1_228 : decode method_3_code 228 = .ok (.lload_n 1, 1) := by decide +kernel
theorem d1_229 : decode method_3_code 229 = .ok (.ldc2_w 28, 3) := by decide +kernel
theorem d1_232 : decode method_3_code 232 = .ok (.ladd, 1) := by decide +kernel
theorem d1_233 : decode method_3_code 233 = .ok (.lastore, 1) := by decide +kernel
theorem d1_234 : decode method_3_code 234 = .ok (.dup, 1) := by decide +kernel
theorem d1_235 : decode method_3_code 235 = .ok (.iconst 5, 1) := by decide +kernel
theorem d1_236 : decode method_3_code 236 = .ok (.lload_n 1, 1) := by decide +kernel
theorem d1_237 : decode method_3_code 237 = .ok (.ldc2_w 30, 3) := by decide +kernel
theorem d1_240 : decode method_3_code 240 = .ok (.ladd, 1) := by decide +kernel
theorem d1_241 : decode method_3_code 241 = .ok (.lastore, 1) := by decide +kernel
theorem d1_242 : decode method_3_code 242 = .ok (.dup, 1) := by decide +kernel
theorem d1_243 : decode method_3_code 243 = .ok (.bipush 6, 2) := by decide +kernel
theorem d1_245 : decode method_3_code 245 = .ok (.lload_n 1, 1) := by decide +kernel
theorem d1_246 : decode method_3_code 246 = .ok (.ldc2_w 32, 3) := by decide +kernel
theorem d1_249 : decode method_3_code 249 = .ok (.ladd, 1) := by decide +kernel
theorem d1_250 : decode method_3_code 250 = .ok (.lastore, 1) := by decide +kernel
theorem d1_251 : decode method_3_code 251 = .ok (.areturn, 1) := by decide +kernel
theorem d1_252 : decode method_3_code 252 = .ok (.bipush 8, 2) := by decide +kernel
theorem d1_254 : decode method_3_code 254 = .ok (.newarray .long, 2) := by decide +kernel
theorem d1_256 : decode method_3_code 256 = .ok (.dup, 1) := by decide +kernel
theorem d1_257 : decode method_3_code 257 = .ok (.iconst 0, 1) := by decide +kernel
theorem d1_258 : decode method_3_code 258 = .ok (.lload_n 1, 1) := by decide +kernel
theorem d1_259 : decode method_3_code 259 = .ok (.lastore, 1) := by decide +kernel
theorem d1_260 : decode method_3_code 260 = .ok (.dup, 1) := by decide +kernel
theorem d1_261 : decode method_3_code 261 = .ok (.iconst 1, 1) := by decide +kernel
theorem d1_262 : decode method_3_code 262 = .ok (.lload_n 1, 1) := by decide +kernel
theorem d1_263 : decode method_3_code 263 = .ok (.lconst 1, 1) := by decide +kernel
theorem d1_264 : decode method_3_code 264 = .ok (.ladd, 1) := by decide +kernel
theorem d1_265 : decode method_3_code 265 = .ok (.lastore, 1) := by decide +kernel
theorem d1_266 : decode method_3_code 266 = .ok (.dup, 1) := by decide +kernel
theorem d1_267 : decode method_3_code 267 = .ok (.iconst 2, 1) := by decide +kernel
theorem d1_268 : decode method_3_code 268 = .ok (.lload_n 1, 1) := by decide +kernel
theorem d1_269 : decode method_3_code 269 = .ok (.ldc2_w 24, 3) := by decide +kernel
theorem d1_272 : decode method_3_code 272 = .ok (.ladd, 1) := by decide +kernel
theorem d1_273 : decode method_3_code 273 = .ok (.lastore, 1) := by decide +kernel
theorem d1_274 : decode method_3_code 274 = .ok (.dup, 1) := by decide +kernel
theorem d1_275 : decode method_3_code 275 = .ok (.iconst 3, 1) := by decide +kernel
theorem d1_276 : decode method_3_code 276 = .ok (.lload_n 1, 1) := by decide +kernel
theorem d1_277 : decode method_3_code 277 = .ok (.ldc2_w 26, 3) := by decide +kernel
theorem d1_280 : decode method_3_code 280 = .ok (.ladd, 1) := by decide +kernel
theorem d1_281 : decode method_3_code 281 = .ok (.lastore, 1) := by decide +kernel
theorem d1_282 : decode method_3_code 282 = .ok (.dup, 1) := by decide +kernel
theorem d1_283 : decode method_3_code 283 = .ok (.iconst 4, 1) := by decide +kernel
theorem d1_284 : decode method_3_code 284 = .ok (.lload_n 1, 1) := by decide +kernel
theorem d1_285 : decode method_3_code 285 = .ok (.ldc2_w 28, 3) := by decide +kernel
theorem d1_288 : decode method_3_code 288 = .ok (.ladd, 1) := by decide +kernel
theorem d1_289 : decode method_3_code 289 = .ok (.lastore, 1) := by decide +kernel
theorem d1_290 : decode method_3_code 290 = .ok (.dup, 1) := by decide +kernel
theorem d1_291 : decode method_3_code 291 = .ok (.iconst 5, 1) := by decide +kernel
theorem d1_292 : decode method_3_code 292 = .ok (.lload_n 1, 1) := by decide +kernel
theorem d1_293 : decode method_3_code 293 = .ok (.ldc2_w 30, 3) := by decide +kernel
theorem d1_296 : decode method_3_code 296 = .ok (.ladd, 1) := by decide +kernel
theorem d1_297 : decode method_3_code 297 = .ok (.lastore, 1) := by decide +kernel
theorem d1_298 : decode method_3_code 298 = .ok (.dup, 1) := by decide +kernel
theorem d1_299 : decode method_3_code 299 = .ok (.bipush 6, 2) := by decide +kernel
theorem d1_301 : decode method_3_code 301 = .ok (.lload_n 1, 1) := by decide +kernel
theorem d1_302 : decode method_3_code 302 = .ok (.ldc2_w 32, 3) := by decide +kernel
theorem d1_305 : decode method_3_code 305 = .ok (.ladd, 1) := by decide +kernel
theorem d1_306 : decode method_3_code 306 = .ok (.lastore, 1) := by decide +kernel
theorem d1_307 : decode method_3_code 307 = .ok (.dup, 1) := by decide +kernel
theorem d1_308 : decode method_3_code 308 = .ok (.bipush 7, 2) := by decide +kernel
theorem d1_310 : decode method_3_code 310 = .ok (.lload_n 1, 1) := by decide +kernel
theorem d1_311 : decode method_3_code 311 = .ok (.ldc2_w 34, 3) := by decide +kernel
theorem d1_314 : decode method_3_code 314 = .ok (.ladd, 1) := by decide +kernel
theorem d1_315 : decode method_3_code 315 = .ok (.lastore, 1) := by decide +kernel
theorem d1_316 : decode method_3_code 316 = .ok (.areturn, 1) := by decide +kernel
theorem pn_0 : plainName "com/example/parley/parley/bench/ReportNearestRankPinLaw" = true := by first | (simp [plainName, overriddenIn]; done) | decide +kernel
theorem ef_1 (m : MethodId) (p0 : Int32) (q1 : Int64) : entryFrame m #[(.int p0), (.long q1)] 3 = mkF m 0 #[.val (.int p0), .val (.long q1), .second] [] := by first | (simp [entryFrame, mkF, argsToLocals, Value.category]; done) | rfl
def Q1 (Z : State) (p0 : Int32) (q1 : Int64) (k : Nat) (h0 : Heap) (n0 : Nat) (v : Option Value) (h : Heap) (L : List Loc) : Prop := ∃ b : Addr, v = some (.ref b) ∧ Fr n0 L ∧ Keep h0 h [] ∧ h0.size ≤ b ∧ AL Z h b .long (own_l q1 0 k)
set_option maxRecDepth 65536 in
set_option maxHeartbeats 40000000 in
theorem rm1 (l : Launch) (Z : State) (aw : Array Value) (hw : ∀ d ∈ tables_1, d.before aw Z = true) (ws : List Jvm.Cond) (p0 : Int32) (q1 : Int64) (k : Nat) (h0 : Heap) (n0 : Nat) (Z0 : n0 ≤ h0.size) (hk : p0.toInt = k) (h1k : 1 ≤ k) (hk8 : k ≤ 8) :
    MetFree l (⟨"com/example/parley/parley/bench/ReportNearestRankPinLaw", "build", "(IJ)[J"⟩ : MethodName) (head1 (Jvm.Cond.code (⟨"com/example/parley/parley/bench/ReportNearestRankPinLaw", "build", "(IJ)[J"⟩ : MethodName) method_3_code 3 (some (.array .long)) :: ws) ({ frames := 0, cells := 1, slots := 8, locals := 0 } : Room)) (fun a U => a = #[(.int p0), (.long q1)] ∧ Z.Warmed39 U.vm ∧ U.heap = h0) (fun _ _ _ _ _ => True) (fun _ U o U' => ∃ v L, o = .returned v ∧ Q1 Z p0 q1 k h0 n0 v U'.heap L ∧ FrameEnd U o U' L ({ frames := 0, cells := 1, slots := 8, locals := 0 } : Room).cells ({ frames := 0, cells := 1, slots := 8, locals := 0 } : Room).slots) := by
  refine MetFree.of_bodySF (plainFor_of_name pn_0) hisR ?_
  intro p e s m args below meth c s₁ Bd hml0 hP hK
  obtain ⟨rfl, hZ, hh⟩ := hP
  have hx := Bd.exec
  have hby := Bd.bytes
  have hml : c.maxLocals = 3 := hml0
  have hown : s.vm.findClass "com/example/parley/parley/bench/ReportNearestRankPinLaw" = some m.cls := findClass_of_methodNamed Bd.named
  have hnm := (name_of_methodNamed Bd.named Bd.method).1
  have hlk : meth.locks = false := Bd.notSynchronized
  have X0 : Stand p l e ({ frames := 0, cells := 1, slots := 8, locals := 0 } : Room) s m #[(.int p0), (.long q1)] below meth c s₁ [] 0 0 := Stand.of_body Bd
  have e0 : s₁.heap = h0 := by rw [← hh, Bd.state]; rfl
  have N0 := Fr.nil n0
  show OwnEnds p.tables e below (OwnQ s ({ frames := 0, cells := 1, slots := 8, locals := 0 } : Room).cells ({ frames := 0, cells := 1, slots := 8, locals := 0 } : Room).slots (Q1 Z p0 q1 k h0 n0)) (s₁.setTop (entryFrame m #[(.int p0), (.long q1)] 3))
  refine own_via (fun t k => castTop (ef_1 m p0 q1) k) ?_
  show OwnEnds p.tables e below _ (s₁.setTop (mkF m 0 #[.val (.int p0), .val (.long q1), .second] []))
  have K0 : Keep h0 h0 [] := Keep.refl _ _
  rcases own_k8 hk h1k hk8 with ⟨rfl, rfl⟩ | ⟨rfl, rfl⟩ | ⟨rfl, rfl⟩ | ⟨rfl, rfl⟩ | ⟨rfl, rfl⟩ | ⟨rfl, rfl⟩ | ⟨rfl, rfl⟩ | ⟨rfl, rfl⟩
  · skip
    show OwnEnds p.tables e below _ (s₁.setTop (mkF m 0 #[.val (.int (1 : Int32)), .val (.long q1), .second] []))
    refine own_via (fun t k => XS.iloadN X0.here hx rfl (hb hby d1_0) rfl k) ?_
    show OwnEnds p.tables e below _ (s₁.setTop (mkF m 1 #[.val (.int (1 : Int32)), .val (.long q1), .second] [(.int (1 : Int32))]))
    refine own_via (fun t k => XS.iconst X0.here hx rfl (hb hby d1_1) k) ?_
    show OwnEnds p.tables e below _ (s₁.setTop (mkF m 2 #[.val (.int (1 : Int32)), .val (.long q1), .second] [(.int (1 : Int32)), (.int (1 : Int32))]))
    have hc2_1 : (1 : Int32) = (1 : Int32) := by decide
    refine own_via (fun t k => XS.icmpNo X0.here hx rfl (hb hby d1_2) rfl (teq hc2_1).2 k) ?_
    show OwnEnds p.tables e below _ (s₁.setTop (mkF m 5 #[.val (.int (1 : Int32)), .val (.long q1), .second] []))
    refine own_via (fun t k => XS.iconst X0.here hx rfl (hb hby d1_5) k) ?_
    show OwnEnds p.tables e below _ (s₁.setTop (mkF m 6 #[.val (.int (1 : Int32)), .val (.long q1), .second] [(.int (1 : Int32))]))
    obtain ⟨T2, h2, k2, X2, e2, E2, A2, st2⟩ := newP X0 hx hZ (hw _ (List.mem_of_getElem? (i := 5) rfl)) e0 (g := (mkF m 6 #[.val (.int (1 : Int32)), .val (.long q1), .second] [(.int (1 : Int32))])) rfl (hb hby d1_6) rfl (by decide) (cap := 1) (by decide) (by decide) (by decide) (by decide)
    obtain ⟨b2, g2⟩ : ∃ z, z = h0.size := ⟨_, rfl⟩
    rw [← g2] at A2 st2
    have g_b2 : n0 ≤ b2 := Nat.le_trans Z0 (Nat.le_of_eq g2.symm)
    have sz_b2 : h0.size ≤ b2 := Nat.le_trans K0.1 (Nat.le_of_eq g2.symm)
    have Zs_2 : n0 ≤ _ := Nat.le_trans Z0 E2.1
    replace K0 := K0.ext E2
    have A_b2 : AL Z h2 b2 .long [(.long (0 : Int64))] := AL.new A2 (by decide) (i := 1) rfl
    refine own_via st2 ?_
    show OwnEnds p.tables e below _ (T2.setTop (mkF m 8 #[.val (.int (1 : Int32)), .val (.long q1), .second] [(.ref b2)]))
    refine own_via (fun t k => XS.dup X2.here hx rfl (hb hby d1_8) rfl rfl k) ?_
    show OwnEnds p.tables e below _ (T2.setTop (mkF m 9 #[.val (.int (1 : Int32)), .val (.long q1), .second] [(.ref b2), (.ref b2)]))
    refine own_via (fun t k => XS.iconst X2.here hx rfl (hb hby d1_9) k) ?_
    show OwnEnds p.tables e below _ (T2.setTop (mkF m 10 #[.val (.int (1 : Int32)), .val (.long q1), .second] [(.int (0 : Int32)), (.ref b2), (.ref b2)]))
    refine own_via (fun t k => XS.lloadN X2.here hx rfl (hb hby d1_10) rfl k) ?_
    show OwnEnds p.tables e below _ (T2.setTop (mkF m 11 #[.val (.int (1 : Int32)), .val (.long q1), .second] [(.long q1), (.int (0 : Int32)), (.ref b2), (.ref b2)]))
    obtain ⟨T3, h3, X3, e3, W3, AA3, st3⟩ := own_stJ X2 hx hZ e2 A_b2 0 rfl (Nat.le_of_ble_eq_true rfl) (g := (mkF m 11 #[.val (.int (1 : Int32)), .val (.long q1), .second] [(.long q1), (.int (0 : Int32)), (.ref b2), (.ref b2)])) rfl rfl (hb hby d1_11)
    replace K0 := K0.wr W3 (Or.inr sz_b2)
    have Zs_W3 : n0 ≤ _ := Nat.le_trans Zs_2 (Keep.of_wr W3).1
    replace A_b2 : AL Z h3 b2 .long [(.long q1)] := AA3
    have N3 := Fr.snoc X3 N0 g_b2
    refine own_via st3 ?_
    show OwnEnds p.tables e below _ (T3.setTop (mkF m 12 #[.val (.int (1 : Int32)), .val (.long q1), .second] [(.ref b2)]))
    refine own_retA X3 hx Bd.returns rfl rfl hlk (hb hby d1_12) ?_ (by decide) (by decide)
    rw [e3]
    exact ⟨b2, rfl, N3, K0, sz_b2, by rw [own_l1]; exact A_b2⟩
  · skip
    show OwnEnds p.tables e below _ (s₁.setTop (mkF m 0 #[.val (.int (2 : Int32)), .val (.long q1), .second] []))
    refine own_via (fun t k => XS.iloadN X0.here hx rfl (hb hby d1_0) rfl k) ?_
    show OwnEnds p.tables e below _ (s₁.setTop (mkF m 1 #[.val (.int (2 : Int32)), .val (.long q1), .second] [(.int (2 : Int32))]))
    refine own_via (fun t k => XS.iconst X0.here hx rfl (hb hby d1_1) k) ?_
    show OwnEnds p.tables e below _ (s₁.setTop (mkF m 2 #[.val (.int (2 : Int32)), .val (.long q1), .second] [(.int (1 : Int32)), (.int (2 : Int32))]))
    have hc2_4 : ¬ ((2 : Int32) = (1 : Int32)) := by decide
    refine own_via (fun t k => XS.icmpYes X0.here hx rfl (pc0 := 2) (pc' := 13) rfl (hb hby d1_2) rfl (feq hc2_4).2 (by decide) (by decide) k) ?_
    show OwnEnds p.tables e below _ (s₁.setTop (mkF m 13 #[.val (.int (2 : Int32)), .val (.long q1), .second] []))
    refine own_via (fun t k => XS.iloadN X0.here hx rfl (hb hby d1_13) rfl k) ?_
    show OwnEnds p.tables e below _ (s₁.setTop (mkF m 14 #[.val (.int (2 : Int32)), .val (.long q1), .second] [(.int (2 : Int32))]))
    refine own_via (fun t k => XS.iconst X0.here hx rfl (hb hby d1_14) k) ?_
    show OwnEnds p.tables e below _ (s₁.setTop (mkF m 15 #[.val (.int (2 : Int32)), .val (.long q1), .second] [(.int (2 : Int32)), (.int (2 : Int32))]))
    have hc15_5 : (2 : Int32) = (2 : Int32) := by decide
    refine own_via (fun t k => XS.icmpNo X0.here hx rfl (hb hby d1_15) rfl (teq hc15_5).2 k) ?_
    show OwnEnds p.tables e below _ (s₁.setTop (mkF m 18 #[.val (.int (2 : Int32)), .val (.long q1), .second] []))
    refine own_via (fun t k => XS.iconst X0.here hx rfl (hb hby d1_18) k) ?_
    show OwnEnds p.tables e below _ (s₁.setTop (mkF m 19 #[.val (.int (2 : Int32)), .val (.long q1), .second] [(.int (2 : Int32))]))
    obtain ⟨T6, h6, k6, X6, e6, E6, A6, st6⟩ := newP X0 hx hZ (hw _ (List.mem_of_getElem? (i := 5) rfl)) e0 (g := (mkF m 19 #[.val (.int (2 : Int32)), .val (.long q1), .second] [(.int (2 : Int32))])) rfl (hb hby d1_19) rfl (by decide) (cap := 2) (by decide) (by decide) (by decide) (by decide)
    obtain ⟨b6, g6⟩ : ∃ z, z = h0.size := ⟨_, rfl⟩
    rw [← g6] at A6 st6
    have g_b6 : n0 ≤ b6 := Nat.le_trans Z0 (Nat.le_of_eq g6.symm)
    have sz_b6 : h0.size ≤ b6 := Nat.le_trans K0.1 (Nat.le_of_eq g6.symm)
    have Zs_6 : n0 ≤ _ := Nat.le_trans Z0 E6.1
    replace K0 := K0.ext E6
    have A_b6 : AL Z h6 b6 .long [(.long (0 : Int64)), (.long (0 : Int64))] := AL.new A6 (by decide) (i := 2) rfl
    refine own_via st6 ?_
    show OwnEnds p.tables e below _ (T6.setTop (mkF m 21 #[.val (.int (2 : Int32)), .val (.long q1), .second] [(.ref b6)]))
    refine own_via (fun t k => XS.dup X6.here hx rfl (hb hby d1_21) rfl rfl k) ?_
    show OwnEnds p.tables e below _ (T6.setTop (mkF m 22 #[.val (.int (2 : Int32)), .val (.long q1), .second] [(.ref b6), (.ref b6)]))
    refine own_via (fun t k => XS.iconst X6.here hx rfl (hb hby d1_22) k) ?_
    show OwnEnds p.tables e below _ (T6.setTop (mkF m 23 #[.val (.int (2 : Int32)), .val (.long q1), .second] [(.int (0 : Int32)), (.ref b6), (.ref b6)]))
    refine own_via (fun t k => XS.lloadN X6.here hx rfl (hb hby d1_23) rfl k) ?_
    show OwnEnds p.tables e below _ (T6.setTop (mkF m 24 #[.val (.int (2 : Int32)), .val (.long q1), .second] [(.long q1), (.int (0 : Int32)), (.ref b6), (.ref b6)]))
    obtain ⟨T7, h7, X7, e7, W7, AA7, st7⟩ := own_stJ X6 hx hZ e6 A_b6 0 rfl (Nat.le_of_ble_eq_true rfl) (g := (mkF m 24 #[.val (.int (2 : Int32)), .val (.long q1), .second] [(.long q1), (.int (0 : Int32)), (.ref b6), (.ref b6)])) rfl rfl (hb hby d1_24)
    replace K0 := K0.wr W7 (Or.inr sz_b6)
    have Zs_W7 : n0 ≤ _ := Nat.le_trans Zs_6 (Keep.of_wr W7).1
    replace A_b6 : AL Z h7 b6 .long [(.long q1), (.long (0 : Int64))] := AA7
    have N7 := Fr.snoc X7 N0 g_b6
    refine own_via st7 ?_
    show OwnEnds p.tables e below _ (T7.setTop (mkF m 25 #[.val (.int (2 : Int32)), .val (.long q1), .second] [(.ref b6)]))
    refine own_via (fun t k => XS.dup X7.here hx rfl (hb hby d1_25) rfl rfl k) ?_
    show OwnEnds p.tables e below _ (T7.setTop (mkF m 26 #[.val (.int (2 : Int32)), .val (.long q1), .second] [(.ref b6), (.ref b6)]))
    refine own_via (fun t k => XS.iconst X7.here hx rfl (hb hby d1_26) k) ?_
    show OwnEnds p.tables e below _ (T7.setTop (mkF m 27 #[.val (.int (2 : Int32)), .val (.long q1), .second] [(.int (1 : Int32)), (.ref b6), (.ref b6)]))
    refine own_via (fun t k => XS.lloadN X7.here hx rfl (hb hby d1_27) rfl k) ?_
    show OwnEnds p.tables e below _ (T7.setTop (mkF m 28 #[.val (.int (2 : Int32)), .val (.long q1), .second] [(.long q1), (.int (1 : Int32)), (.ref b6), (.ref b6)]))
    refine own_via (fun t k => XS.lconst X7.here hx rfl (hb hby d1_28) k) ?_
    show OwnEnds p.tables e below _ (T7.setTop (mkF m 29 #[.val (.int (2 : Int32)), .val (.long q1), .second] [(.long (1 : Int64)), (.long q1), (.int (1 : Int32)), (.ref b6), (.ref b6)]))
    refine own_via (fun t k => XS.ladd X7.here hx rfl (hb hby d1_29) rfl k) ?_
    show OwnEnds p.tables e below _ (T7.setTop (mkF m 30 #[.val (.int (2 : Int32)), .val (.long q1), .second] [(.long (q1 + (1 : Int64))), (.int (1 : Int32)), (.ref b6), (.ref b6)]))
    obtain ⟨T8, h8, X8, e8, W8, AA8, st8⟩ := own_stJ X7 hx hZ e7 A_b6 1 rfl (Nat.le_of_ble_eq_true rfl) (g := (mkF m 30 #[.val (.int (2 : Int32)), .val (.long q1), .second] [(.long (q1 + (1 : Int64))), (.int (1 : Int32)), (.ref b6), (.ref b6)])) rfl rfl (hb hby d1_30)
    replace K0 := K0.wr W8 (Or.inr sz_b6)
    have Zs_W8 : n0 ≤ _ := Nat.le_trans Zs_W7 (Keep.of_wr W8).1
    replace A_b6 : AL Z h8 b6 .long [(.long q1), (.long (q1 + (1 : Int64)))] := AA8
    have N8 := Fr.snoc X8 N7 g_b6
    refine own_via st8 ?_
    show OwnEnds p.tables e below _ (T8.setTop (mkF m 31 #[.val (.int (2 : Int32)), .val (.long q1), .second] [(.ref b6)]))
    refine own_retA X8 hx Bd.returns rfl rfl hlk (hb hby d1_31) ?_ (by decide) (by decide)
    rw [e8]
    exact ⟨b6, rfl, N8, K0, sz_b6, by rw [own_l2]; exact A_b6⟩
  · skip
    show OwnEnds p.tables e below _ (s₁.setTop (mkF m 0 #[.val (.int (3 : Int32)), .val (.long q1), .second] []))
    refine own_via (fun t k => XS.iloadN X0.here hx rfl (hb hby d1_0) rfl k) ?_
    show OwnEnds p.tables e below _ (s₁.setTop (mkF m 1 #[.val (.int (3 : Int32)), .val (.long q1), .second] [(.int (3 : Int32))]))
    refine own_via (fun t k => XS.iconst X0.here hx rfl (hb hby d1_1) k) ?_
    show OwnEnds p.tables e below _ (s₁.setTop (mkF m 2 #[.val (.int (3 : Int32)), .val (.long q1), .second] [(.int (1 : Int32)), (.int (3 : Int32))]))
    have hc2_9 : ¬ ((3 : Int32) = (1 : Int32)) := by decide
    refine own_via (fun t k => XS.icmpYes X0.here hx rfl (pc0 := 2) (pc' := 13) rfl (hb hby d1_2) rfl (feq hc2_9).2 (by decide) (by decide) k) ?_
    show OwnEnds p.tables e below _ (s₁.setTop (mkF m 13 #[.val (.int (3 : Int32)), .val (.long q1), .second] []))
    refine own_via (fun t k => XS.iloadN X0.here hx rfl (hb hby d1_13) rfl k) ?_
    show OwnEnds p.tables e below _ (s₁.setTop (mkF m 14 #[.val (.int (3 : Int32)), .val (.long q1), .second] [(.int (3 : Int32))]))
    refine own_via (fun t k => XS.iconst X0.here hx rfl (hb hby d1_14) k) ?_
    show OwnEnds p.tables e below _ (s₁.setTop (mkF m 15 #[.val (.int (3 : Int32)), .val (.long q1), .second] [(.int (2 : Int32)), (.int (3 : Int32))]))
    have hc15_10 : ¬ ((3 : Int32) = (2 : Int32)) := by decide
    refine own_via (fun t k => XS.icmpYes X0.here hx rfl (pc0 := 15) (pc' := 32) rfl (hb hby d1_15) rfl (feq hc15_10).2 (by decide) (by decide) k) ?_
    show OwnEnds p.tables e below _ (s₁.setTop (mkF m 32 #[.val (.int (3 : Int32)), .val (.long q1), .second] []))
    refine own_via (fun t k => XS.iloadN X0.here hx rfl (hb hby d1_32) rfl k) ?_
    show OwnEnds p.tables e below _ (s₁.setTop (mkF m 33 #[.val (.int (3 : Int32)), .val (.long q1), .second] [(.int (3 : Int32))]))
    refine own_via (fun t k => XS.iconst X0.here hx rfl (hb hby d1_33) k) ?_
    show OwnEnds p.tables e below _ (s₁.setTop (mkF m 34 #[.val (.int (3 : Int32)), .val (.long q1), .second] [(.int (3 : Int32)), (.int (3 : Int32))]))
    have hc34_11 : (3 : Int32) = (3 : Int32) := by decide
    refine own_via (fun t k => XS.icmpNo X0.here hx rfl (hb hby d1_34) rfl (teq hc34_11).2 k) ?_
    show OwnEnds p.tables e below _ (s₁.setTop (mkF m 37 #[.val (.int (3 : Int32)), .val (.long q1), .second] []))
    refine own_via (fun t k => XS.iconst X0.here hx rfl (hb hby d1_37) k) ?_
    show OwnEnds p.tables e below _ (s₁.setTop (mkF m 38 #[.val (.int (3 : Int32)), .val (.long q1), .second] [(.int (3 : Int32))]))
    obtain ⟨T12, h12, k12, X12, e12, E12, A12, st12⟩ := newP X0 hx hZ (hw _ (List.mem_of_getElem? (i := 5) rfl)) e0 (g := (mkF m 38 #[.val (.int (3 : Int32)), .val (.long q1), .second] [(.int (3 : Int32))])) rfl (hb hby d1_38) rfl (by decide) (cap := 3) (by decide) (by decide) (by decide) (by decide)
    obtain ⟨b12, g12⟩ : ∃ z, z = h0.size := ⟨_, rfl⟩
    rw [← g12] at A12 st12
    have g_b12 : n0 ≤ b12 := Nat.le_trans Z0 (Nat.le_of_eq g12.symm)
    have sz_b12 : h0.size ≤ b12 := Nat.le_trans K0.1 (Nat.le_of_eq g12.symm)
    have Zs_12 : n0 ≤ _ := Nat.le_trans Z0 E12.1
    replace K0 := K0.ext E12
    have A_b12 : AL Z h12 b12 .long [(.long (0 : Int64)), (.long (0 : Int64)), (.long (0 : Int64))] := AL.new A12 (by decide) (i := 3) rfl
    refine own_via st12 ?_
    show OwnEnds p.tables e below _ (T12.setTop (mkF m 40 #[.val (.int (3 : Int32)), .val (.long q1), .second] [(.ref b12)]))
    refine own_via (fun t k => XS.dup X12.here hx rfl (hb hby d1_40) rfl rfl k) ?_
    show OwnEnds p.tables e below _ (T12.setTop (mkF m 41 #[.val (.int (3 : Int32)), .val (.long q1), .second] [(.ref b12), (.ref b12)]))
    refine own_via (fun t k => XS.iconst X12.here hx rfl (hb hby d1_41) k) ?_
    show OwnEnds p.tables e below _ (T12.setTop (mkF m 42 #[.val (.int (3 : Int32)), .val (.long q1), .second] [(.int (0 : Int32)), (.ref b12), (.ref b12)]))
    refine own_via (fun t k => XS.lloadN X12.here hx rfl (hb hby d1_42) rfl k) ?_
    show OwnEnds p.tables e below _ (T12.setTop (mkF m 43 #[.val (.int (3 : Int32)), .val (.long q1), .second] [(.long q1), (.int (0 : Int32)), (.ref b12), (.ref b12)]))
    obtain ⟨T13, h13, X13, e13, W13, AA13, st13⟩ := own_stJ X12 hx hZ e12 A_b12 0 rfl (Nat.le_of_ble_eq_true rfl) (g := (mkF m 43 #[.val (.int (3 : Int32)), .val (.long q1), .second] [(.long q1), (.int (0 : Int32)), (.ref b12), (.ref b12)])) rfl rfl (hb hby d1_43)
    replace K0 := K0.wr W13 (Or.inr sz_b12)
    have Zs_W13 : n0 ≤ _ := Nat.le_trans Zs_12 (Keep.of_wr W13).1
    replace A_b12 : AL Z h13 b12 .long [(.long q1), (.long (0 : Int64)), (.long (0 : Int64))] := AA13
    have N13 := Fr.snoc X13 N0 g_b12
    refine own_via st13 ?_
    show OwnEnds p.tables e below _ (T13.setTop (mkF m 44 #[.val (.int (3 : Int32)), .val (.long q1), .second] [(.ref b12)]))
    refine own_via (fun t k => XS.dup X13.here hx rfl (hb hby d1_44) rfl rfl k) ?_
    show OwnEnds p.tables e below _ (T13.setTop (mkF m 45 #[.val (.int (3 : Int32)), .val (.long q1), .second] [(.ref b12), (.ref b12)]))
    refine own_via (fun t k => XS.iconst X13.here hx rfl (hb hby d1_45) k) ?_
    show OwnEnds p.tables e below _ (T13.setTop (mkF m 46 #[.val (.int (3 : Int32)), .val (.long q1), .second] [(.int (1 : Int32)), (.ref b12), (.ref b12)]))
    refine own_via (fun t k => XS.lloadN X13.here hx rfl (hb hby d1_46) rfl k) ?_
    show OwnEnds p.tables e below _ (T13.setTop (mkF m 47 #[.val (.int (3 : Int32)), .val (.long q1), .second] [(.long q1), (.int (1 : Int32)), (.ref b12), (.ref b12)]))
    refine own_via (fun t k => XS.lconst X13.here hx rfl (hb hby d1_47) k) ?_
    show OwnEnds p.tables e below _ (T13.setTop (mkF m 48 #[.val (.int (3 : Int32)), .val (.long q1), .second] [(.long (1 : Int64)), (.long q1), (.int (1 : Int32)), (.ref b12), (.ref b12)]))
    refine own_via (fun t k => XS.ladd X13.here hx rfl (hb hby d1_48) rfl k) ?_
    show OwnEnds p.tables e below _ (T13.setTop (mkF m 49 #[.val (.int (3 : Int32)), .val (.long q1), .second] [(.long (q1 + (1 : Int64))), (.int (1 : Int32)), (.ref b12), (.ref b12)]))
    obtain ⟨T14, h14, X14, e14, W14, AA14, st14⟩ := own_stJ X13 hx hZ e13 A_b12 1 rfl (Nat.le_of_ble_eq_true rfl) (g := (mkF m 49 #[.val (.int (3 : Int32)), .val (.long q1), .second] [(.long (q1 + (1 : Int64))), (.int (1 : Int32)), (.ref b12), (.ref b12)])) rfl rfl (hb hby d1_49)
    replace K0 := K0.wr W14 (Or.inr sz_b12)
    have Zs_W14 : n0 ≤ _ := Nat.le_trans Zs_W13 (Keep.of_wr W14).1
    replace A_b12 : AL Z h14 b12 .long [(.long q1), (.long (q1 + (1 : Int64))), (.long (0 : Int64))] := AA14
    have N14 := Fr.snoc X14 N13 g_b12
    refine own_via st14 ?_
    show OwnEnds p.tables e below _ (T14.setTop (mkF m 50 #[.val (.int (3 : Int32)), .val (.long q1), .second] [(.ref b12)]))
    refine own_via (fun t k => XS.dup X14.here hx rfl (hb hby d1_50) rfl rfl k) ?_
    show OwnEnds p.tables e below _ (T14.setTop (mkF m 51 #[.val (.int (3 : Int32)), .val (.long q1), .second] [(.ref b12), (.ref b12)]))
    refine own_via (fun t k => XS.iconst X14.here hx rfl (hb hby d1_51) k) ?_
    show OwnEnds p.tables e below _ (T14.setTop (mkF m 52 #[.val (.int (3 : Int32)), .val (.long q1), .second] [(.int (2 : Int32)), (.ref b12), (.ref b12)]))
    refine own_via (fun t k => XS.lloadN X14.here hx rfl (hb hby d1_52) rfl k) ?_
    show OwnEnds p.tables e below _ (T14.setTop (mkF m 53 #[.val (.int (3 : Int32)), .val (.long q1), .second] [(.long q1), (.int (2 : Int32)), (.ref b12), (.ref b12)]))
    refine own_via (X14.ldc2Long hx hown (mvT hZ (hw _ (List.mem_of_getElem? (i := 19) rfl))) (g := (mkF m 53 #[.val (.int (3 : Int32)), .val (.long q1), .second] [(.long q1), (.int (2 : Int32)), (.ref b12), (.ref b12)])) rfl (hb hby d1_53)) ?_
    show OwnEnds p.tables e below _ (T14.setTop (mkF m 56 #[.val (.int (3 : Int32)), .val (.long q1), .second] [(.long (2 : Int64)), (.long q1), (.int (2 : Int32)), (.ref b12), (.ref b12)]))
    refine own_via (fun t k => XS.ladd X14.here hx rfl (hb hby d1_56) rfl k) ?_
    show OwnEnds p.tables e below _ (T14.setTop (mkF m 57 #[.val (.int (3 : Int32)), .val (.long q1), .second] [(.long (q1 + (2 : Int64))), (.int (2 : Int32)), (.ref b12), (.ref b12)]))
    obtain ⟨T15, h15, X15, e15, W15, AA15, st15⟩ := own_stJ X14 hx hZ e14 A_b12 2 rfl (Nat.le_of_ble_eq_true rfl) (g := (mkF m 57 #[.val (.int (3 : Int32)), .val (.long q1), .second] [(.long (q1 + (2 : Int64))), (.int (2 : Int32)), (.ref b12), (.ref b12)])) rfl rfl (hb hby d1_57)
    replace K0 := K0.wr W15 (Or.inr sz_b12)
    have Zs_W15 : n0 ≤ _ := Nat.le_trans Zs_W14 (Keep.of_wr W15).1
    replace A_b12 : AL Z h15 b12 .long [(.long q1), (.long (q1 + (1 : Int64))), (.long (q1 + (2 : Int64)))] := AA15
    have N15 := Fr.snoc X15 N14 g_b12
    refine own_via st15 ?_
    show OwnEnds p.tables e below _ (T15.setTop (mkF m 58 #[.val (.int (3 : Int32)), .val (.long q1), .second] [(.ref b12)]))
    refine own_retA X15 hx Bd.returns rfl rfl hlk (hb hby d1_58) ?_ (by decide) (by decide)
    rw [e15]
    exact ⟨b12, rfl, N15, K0, sz_b12, by rw [own_l3]; exact A_b12⟩
  · skip
    show OwnEnds p.tables e below _ (s₁.setTop (mkF m 0 #[.val (.int (4 : Int32)), .val (.long q1), .second] []))
    refine own_via (fun t k => XS.iloadN X0.here hx rfl (hb hby d1_0) rfl k) ?_
    show OwnEnds p.tables e below _ (s₁.setTop (mkF m 1 #[.val (.int (4 : Int32)), .val (.long q1), .second] [(.int (4 : Int32))]))
    refine own_via (fun t k => XS.iconst X0.here hx rfl (hb hby d1_1) k) ?_
    show OwnEnds p.tables e below _ (s₁.setTop (mkF m 2 #[.val (.int (4 : Int32)), .val (.long q1), .second] [(.int (1 : Int32)), (.int (4 : Int32))]))
    have hc2_16 : ¬ ((4 : Int32) = (1 : Int32)) := by decide
    refine own_via (fun t k => XS.icmpYes X0.here hx rfl (pc0 := 2) (pc' := 13) rfl (hb hby d1_2) rfl (feq hc2_16).2 (by decide) (by decide) k) ?_
    show OwnEnds p.tables e below _ (s₁.setTop (mkF m 13 #[.val (.int (4 : Int32)), .val (.long q1), .second] []))
    refine own_via (fun t k => XS.iloadN X0.here hx rfl (hb hby d1_13) rfl k) ?_
    show OwnEnds p.tables e below _ (s₁.setTop (mkF m 14 #[.val (.int (4 : Int32)), .val (.long q1), .second] [(.int (4 : Int32))]))
    refine own_via (fun t k => XS.iconst X0.here hx rfl (hb hby d1_14) k) ?_
    show OwnEnds p.tables e below _ (s₁.setTop (mkF m 15 #[.val (.int (4 : Int32)), .val (.long q1), .second] [(.int (2 : Int32)), (.int (4 : Int32))]))
    have hc15_17 : ¬ ((4 : Int32) = (2 : Int32)) := by decide
    refine own_via (fun t k => XS.icmpYes X0.here hx rfl (pc0 := 15) (pc' := 32) rfl (hb hby d1_15) rfl (feq hc15_17).2 (by decide) (by decide) k) ?_
    show OwnEnds p.tables e below _ (s₁.setTop (mkF m 32 #[.val (.int (4 : Int32)), .val (.long q1), .second] []))
    refine own_via (fun t k => XS.iloadN X0.here hx rfl (hb hby d1_32) rfl k) ?_
    show OwnEnds p.tables e below _ (s₁.setTop (mkF m 33 #[.val (.int (4 : Int32)), .val (.long q1), .second] [(.int (4 : Int32))]))
    refine own_via (fun t k => XS.iconst X0.here hx rfl (hb hby d1_33) k) ?_
    show OwnEnds p.tables e below _ (s₁.setTop (mkF m 34 #[.val (.int (4 : Int32)), .val (.long q1), .second] [(.int (3 : Int32)), (.int (4 : Int32))]))
    have hc34_18 : ¬ ((4 : Int32) = (3 : Int32)) := by decide
    refine own_via (fun t k => XS.icmpYes X0.here hx rfl (pc0 := 34) (pc' := 59) rfl (hb hby d1_34) rfl (feq hc34_18).2 (by decide) (by decide) k) ?_
    show OwnEnds p.tables e below _ (s₁.setTop (mkF m 59 #[.val (.int (4 : Int32)), .val (.long q1), .second] []))
    refine own_via (fun t k => XS.iloadN X0.here hx rfl (hb hby d1_59) rfl k) ?_
    show OwnEnds p.tables e below _ (s₁.setTop (mkF m 60 #[.val (.int (4 : Int32)), .val (.long q1), .second] [(.int (4 : Int32))]))
    refine own_via (fun t k => XS.iconst X0.here hx rfl (hb hby d1_60) k) ?_
    show OwnEnds p.tables e below _ (s₁.setTop (mkF m 61 #[.val (.int (4 : Int32)), .val (.long q1), .second] [(.int (4 : Int32)), (.int (4 : Int32))]))
    have hc61_19 : (4 : Int32) = (4 : Int32) := by decide
    refine own_via (fun t k => XS.icmpNo X0.here hx rfl (hb hby d1_61) rfl (teq hc61_19).2 k) ?_
    show OwnEnds p.tables e below _ (s₁.setTop (mkF m 64 #[.val (.int (4 : Int32)), .val (.long q1), .second] []))
    refine own_via (fun t k => XS.iconst X0.here hx rfl (hb hby d1_64) k) ?_
    show OwnEnds p.tables e below _ (s₁.setTop (mkF m 65 #[.val (.int (4 : Int32)), .val (.long q1), .second] [(.int (4 : Int32))]))
    obtain ⟨T20, h20, k20, X20, e20, E20, A20, st20⟩ := newP X0 hx hZ (hw _ (List.mem_of_getElem? (i := 5) rfl)) e0 (g := (mkF m 65 #[.val (.int (4 : Int32)), .val (.long q1), .second] [(.int (4 : Int32))])) rfl (hb hby d1_65) rfl (by decide) (cap := 4) (by decide) (by decide) (by decide) (by decide)
    obtain ⟨b20, g20⟩ : ∃ z, z = h0.size := ⟨_, rfl⟩
    rw [← g20] at A20 st20
    have g_b20 : n0 ≤ b20 := Nat.le_trans Z0 (Nat.le_of_eq g20.symm)
    have sz_b20 : h0.size ≤ b20 := Nat.le_trans K0.1 (Nat.le_of_eq g20.symm)
    have Zs_20 : n0 ≤ _ := Nat.le_trans Z0 E20.1
    replace K0 := K0.ext E20
    have A_b20 : AL Z h20 b20 .long [(.long (0 : Int64)), (.long (0 : Int64)), (.long (0 : Int64)), (.long (0 : Int64))] := AL.new A20 (by decide) (i := 4) rfl
    refine own_via st20 ?_
    show OwnEnds p.tables e below _ (T20.setTop (mkF m 67 #[.val (.int (4 : Int32)), .val (.long q1), .second] [(.ref b20)]))
    refine own_via (fun t k => XS.dup X20.here hx rfl (hb hby d1_67) rfl rfl k) ?_
    show OwnEnds p.tables e below _ (T20.setTop (mkF m 68 #[.val (.int (4 : Int32)), .val (.long q1), .second] [(.ref b20), (.ref b20)]))
    refine own_via (fun t k => XS.iconst X20.here hx rfl (hb hby d1_68) k) ?_
    show OwnEnds p.tables e below _ (T20.setTop (mkF m 69 #[.val (.int (4 : Int32)), .val (.long q1), .second] [(.int (0 : Int32)), (.ref b20), (.ref b20)]))
    refine own_via (fun t k => XS.lloadN X20.here hx rfl (hb hby d1_69) rfl k) ?_
    show OwnEnds p.tables e below _ (T20.setTop (mkF m 70 #[.val (.int (4 : Int32)), .val (.long q1), .second] [(.long q1), (.int (0 : Int32)), (.ref b20), (.ref b20)]))
    obtain ⟨T21, h21, X21, e21, W21, AA21, st21⟩ := own_stJ X20 hx hZ e20 A_b20 0 rfl (Nat.le_of_ble_eq_true rfl) (g := (mkF m 70 #[.val (.int (4 : Int32)), .val (.long q1), .second] [(.long q1), (.int (0 : Int32)), (.ref b20), (.ref b20)])) rfl rfl (hb hby d1_70)
    replace K0 := K0.wr W21 (Or.inr sz_b20)
    have Zs_W21 : n0 ≤ _ := Nat.le_trans Zs_20 (Keep.of_wr W21).1
    replace A_b20 : AL Z h21 b20 .long [(.long q1), (.long (0 : Int64)), (.long (0 : Int64)), (.long (0 : Int64))] := AA21
    have N21 := Fr.snoc X21 N0 g_b20
    refine own_via st21 ?_
    show OwnEnds p.tables e below _ (T21.setTop (mkF m 71 #[.val (.int (4 : Int32)), .val (.long q1), .second] [(.ref b20)]))
    refine own_via (fun t k => XS.dup X21.here hx rfl (hb hby d1_71) rfl rfl k) ?_
    show OwnEnds p.tables e below _ (T21.setTop (mkF m 72 #[.val (.int (4 : Int32)), .val (.long q1), .second] [(.ref b20), (.ref b20)]))
    refine own_via (fun t k => XS.iconst X21.here hx rfl (hb hby d1_72) k) ?_
    show OwnEnds p.tables e below _ (T21.setTop (mkF m 73 #[.val (.int (4 : Int32)), .val (.long q1), .second] [(.int (1 : Int32)), (.ref b20), (.ref b20)]))
    refine own_via (fun t k => XS.lloadN X21.here hx rfl (hb hby d1_73) rfl k) ?_
    show OwnEnds p.tables e below _ (T21.setTop (mkF m 74 #[.val (.int (4 : Int32)), .val (.long q1), .second] [(.long q1), (.int (1 : Int32)), (.ref b20), (.ref b20)]))
    refine own_via (fun t k => XS.lconst X21.here hx rfl (hb hby d1_74) k) ?_
    show OwnEnds p.tables e below _ (T21.setTop (mkF m 75 #[.val (.int (4 : Int32)), .val (.long q1), .second] [(.long (1 : Int64)), (.long q1), (.int (1 : Int32)), (.ref b20), (.ref b20)]))
    refine own_via (fun t k => XS.ladd X21.here hx rfl (hb hby d1_75) rfl k) ?_
    show OwnEnds p.tables e below _ (T21.setTop (mkF m 76 #[.val (.int (4 : Int32)), .val (.long q1), .second] [(.long (q1 + (1 : Int64))), (.int (1 : Int32)), (.ref b20), (.ref b20)]))
    obtain ⟨T22, h22, X22, e22, W22, AA22, st22⟩ := own_stJ X21 hx hZ e21 A_b20 1 rfl (Nat.le_of_ble_eq_true rfl) (g := (mkF m 76 #[.val (.int (4 : Int32)), .val (.long q1), .second] [(.long (q1 + (1 : Int64))), (.int (1 : Int32)), (.ref b20), (.ref b20)])) rfl rfl (hb hby d1_76)
    replace K0 := K0.wr W22 (Or.inr sz_b20)
    have Zs_W22 : n0 ≤ _ := Nat.le_trans Zs_W21 (Keep.of_wr W22).1
    replace A_b20 : AL Z h22 b20 .long [(.long q1), (.long (q1 + (1 : Int64))), (.long (0 : Int64)), (.long (0 : Int64))] := AA22
    have N22 := Fr.snoc X22 N21 g_b20
    refine own_via st22 ?_
    show OwnEnds p.tables e below _ (T22.setTop (mkF m 77 #[.val (.int (4 : Int32)), .val (.long q1), .second] [(.ref b20)]))
    refine own_via (fun t k => XS.dup X22.here hx rfl (hb hby d1_77) rfl rfl k) ?_
    show OwnEnds p.tables e below _ (T22.setTop (mkF m 78 #[.val (.int (4 : Int32)), .val (.long q1), .second] [(.ref b20), (.ref b20)]))
    refine own_via (fun t k => XS.iconst X22.here hx rfl (hb hby d1_78) k) ?_
    show OwnEnds p.tables e below _ (T22.setTop (mkF m 79 #[.val (.int (4 : Int32)), .val (.long q1), .second] [(.int (2 : Int32)), (.ref b20), (.ref b20)]))
    refine own_via (fun t k => XS.lloadN X22.here hx rfl (hb hby d1_79) rfl k) ?_
    show OwnEnds p.tables e below _ (T22.setTop (mkF m 80 #[.val (.int (4 : Int32)), .val (.long q1), .second] [(.long q1), (.int (2 : Int32)), (.ref b20), (.ref b20)]))
    refine own_via (X22.ldc2Long hx hown (mvT hZ (hw _ (List.mem_of_getElem? (i := 19) rfl))) (g := (mkF m 80 #[.val (.int (4 : Int32)), .val (.long q1), .second] [(.long q1), (.int (2 : Int32)), (.ref b20), (.ref b20)])) rfl (hb hby d1_80)) ?_
    show OwnEnds p.tables e below _ (T22.setTop (mkF m 83 #[.val (.int (4 : Int32)), .val (.long q1), .second] [(.long (2 : Int64)), (.long q1), (.int (2 : Int32)), (.ref b20), (.ref b20)]))
    refine own_via (fun t k => XS.ladd X22.here hx rfl (hb hby d1_83) rfl k) ?_
    show OwnEnds p.tables e below _ (T22.setTop (mkF m 84 #[.val (.int (4 : Int32)), .val (.long q1), .second] [(.long (q1 + (2 : Int64))), (.int (2 : Int32)), (.ref b20), (.ref b20)]))
    obtain ⟨T23, h23, X23, e23, W23, AA23, st23⟩ := own_stJ X22 hx hZ e22 A_b20 2 rfl (Nat.le_of_ble_eq_true rfl) (g := (mkF m 84 #[.val (.int (4 : Int32)), .val (.long q1), .second] [(.long (q1 + (2 : Int64))), (.int (2 : Int32)), (.ref b20), (.ref b20)])) rfl rfl (hb hby d1_84)
    replace K0 := K0.wr W23 (Or.inr sz_b20)
    have Zs_W23 : n0 ≤ _ := Nat.le_trans Zs_W22 (Keep.of_wr W23).1
    replace A_b20 : AL Z h23 b20 .long [(.long q1), (.long (q1 + (1 : Int64))), (.long (q1 + (2 : Int64))), (.long (0 : Int64))] := AA23
    have N23 := Fr.snoc X23 N22 g_b20
    refine own_via st23 ?_
    show OwnEnds p.tables e below _ (T23.setTop (mkF m 85 #[.val (.int (4 : Int32)), .val (.long q1), .second] [(.ref b20)]))
    refine own_via (fun t k => XS.dup X23.here hx rfl (hb hby d1_85) rfl rfl k) ?_
    show OwnEnds p.tables e below _ (T23.setTop (mkF m 86 #[.val (.int (4 : Int32)), .val (.long q1), .second] [(.ref b20), (.ref b20)]))
    refine own_via (fun t k => XS.iconst X23.here hx rfl (hb hby d1_86) k) ?_
    show OwnEnds p.tables e below _ (T23.setTop (mkF m 87 #[.val (.int (4 : Int32)), .val (.long q1), .second] [(.int (3 : Int32)), (.ref b20), (.ref b20)]))
    refine own_via (fun t k => XS.lloadN X23.here hx rfl (hb hby d1_87) rfl k) ?_
    show OwnEnds p.tables e below _ (T23.setTop (mkF m 88 #[.val (.int (4 : Int32)), .val (.long q1), .second] [(.long q1), (.int (3 : Int32)), (.ref b20), (.ref b20)]))
    refine own_via (X23.ldc2Long hx hown (mvT hZ (hw _ (List.mem_of_getElem? (i := 20) rfl))) (g := (mkF m 88 #[.val (.int (4 : Int32)), .val (.long q1), .second] [(.long q1), (.int (3 : Int32)), (.ref b20), (.ref b20)])) rfl (hb hby d1_88)) ?_
    show OwnEnds p.tables e below _ (T23.setTop (mkF m 91 #[.val (.int (4 : Int32)), .val (.long q1), .second] [(.long (3 : Int64)), (.long q1), (.int (3 : Int32)), (.ref b20), (.ref b20)]))
    refine own_via (fun t k => XS.ladd X23.here hx rfl (hb hby d1_91) rfl k) ?_
    show OwnEnds p.tables e below _ (T23.setTop (mkF m 92 #[.val (.int (4 : Int32)), .val (.long q1), .second] [(.long (q1 + (3 : Int64))), (.int (3 : Int32)), (.ref b20), (.ref b20)]))
    obtain ⟨T24, h24, X24, e24, W24, AA24, st24⟩ := own_stJ X23 hx hZ e23 A_b20 3 rfl (Nat.le_of_ble_eq_true rfl) (g := (mkF m 92 #[.val (.int (4 : Int32)), .val (.long q1), .second] [(.long (q1 + (3 : Int64))), (.int (3 : Int32)), (.ref b20), (.ref b20)])) rfl rfl (hb hby d1_92)
    replace K0 := K0.wr W24 (Or.inr sz_b20)
    have Zs_W24 : n0 ≤ _ := Nat.le_trans Zs_W23 (Keep.of_wr W24).1
    replace A_b20 : AL Z h24 b20 .long [(.long q1), (.long (q1 + (1 : Int64))), (.long (q1 + (2 : Int64))), (.long (q1 + (3 : Int64)))] := AA24
    have N24 := Fr.snoc X24 N23 g_b20
    refine own_via st24 ?_
    show OwnEnds p.tables e below _ (T24.setTop (mkF m 93 #[.val (.int (4 : Int32)), .val (.long q1), .second] [(.ref b20)]))
    refine own_retA X24 hx Bd.returns rfl rfl hlk (hb hby d1_93) ?_ (by decide) (by decide)
    rw [e24]
    exact ⟨b20, rfl, N24, K0, sz_b20, by rw [own_l4]; exact A_b20⟩
  · skip
    show OwnEnds p.tables e below _ (s₁.setTop (mkF m 0 #[.val (.int (5 : Int32)), .val (.long q1), .second] []))
    refine own_via (fun t k => XS.iloadN X0.here hx rfl (hb hby d1_0) rfl k) ?_
    show OwnEnds p.tables e below _ (s₁.setTop (mkF m 1 #[.val (.int (5 : Int32)), .val (.long q1), .second] [(.int (5 : Int32))]))
    refine own_via (fun t k => XS.iconst X0.here hx rfl (hb hby d1_1) k) ?_
    show OwnEnds p.tables e below _ (s₁.setTop (mkF m 2 #[.val (.int (5 : Int32)), .val (.long q1), .second] [(.int (1 : Int32)), (.int (5 : Int32))]))
    have hc2_25 : ¬ ((5 : Int32) = (1 : Int32)) := by decide
    refine own_via (fun t k => XS.icmpYes X0.here hx rfl (pc0 := 2) (pc' := 13) rfl (hb hby d1_2) rfl (feq hc2_25).2 (by decide) (by decide) k) ?_
    show OwnEnds p.tables e below _ (s₁.setTop (mkF m 13 #[.val (.int (5 : Int32)), .val (.long q1), .second] []))
    refine own_via (fun t k => XS.iloadN X0.here hx rfl (hb hby d1_13) rfl k) ?_
    show OwnEnds p.tables e below _ (s₁.setTop (mkF m 14 #[.val (.int (5 : Int32)), .val (.long q1), .second] [(.int (5 : Int32))]))
    refine own_via (fun t k => XS.iconst X0.here hx rfl (hb hby d1_14) k) ?_
    show OwnEnds p.tables e below _ (s₁.setTop (mkF m 15 #[.val (.int (5 : Int32)), .val (.long q1), .second] [(.int (2 : Int32)), (.int (5 : Int32))]))
    have hc15_26 : ¬ ((5 : Int32) = (2 : Int32)) := by decide
    refine own_via (fun t k => XS.icmpYes X0.here hx rfl (pc0 := 15) (pc' := 32) rfl (hb hby d1_15) rfl (feq hc15_26).2 (by decide) (by decide) k) ?_
    show OwnEnds p.tables e below _ (s₁.setTop (mkF m 32 #[.val (.int (5 : Int32)), .val (.long q1), .second] []))
    refine own_via (fun t k => XS.iloadN X0.here hx rfl (hb hby d1_32) rfl k) ?_
    show OwnEnds p.tables e below _ (s₁.setTop (mkF m 33 #[.val (.int (5 : Int32)), .val (.long q1), .second] [(.int (5 : Int32))]))
    refine own_via (fun t k => XS.iconst X0.here hx rfl (hb hby d1_33) k) ?_
    show OwnEnds p.tables e below _ (s₁.setTop (mkF m 34 #[.val (.int (5 : Int32)), .val (.long q1), .second] [(.int (3 : Int32)), (.int (5 : Int32))]))
    have hc34_27 : ¬ ((5 : Int32) = (3 : Int32)) := by decide
    refine own_via (fun t k => XS.icmpYes X0.here hx rfl (pc0 := 34) (pc' := 59) rfl (hb hby d1_34) rfl (feq hc34_27).2 (by decide) (by decide) k) ?_
    show OwnEnds p.tables e below _ (s₁.setTop (mkF m 59 #[.val (.int (5 : Int32)), .val (.long q1), .second] []))
    refine own_via (fun t k => XS.iloadN X0.here hx rfl (hb hby d1_59) rfl k) ?_
    show OwnEnds p.tables e below _ (s₁.setTop (mkF m 60 #[.val (.int (5 : Int32)), .val (.long q1), .second] [(.int (5 : Int32))]))
    refine own_via (fun t k => XS.iconst X0.here hx rfl (hb hby d1_60) k) ?_
    show OwnEnds p.tables e below _ (s₁.setTop (mkF m 61 #[.val (.int (5 : Int32)), .val (.long q1), .second] [(.int (4 : Int32)), (.int (5 : Int32))]))
    have hc61_28 : ¬ ((5 : Int32) = (4 : Int32)) := by decide
    refine own_via (fun t k => XS.icmpYes X0.here hx rfl (pc0 := 61) (pc' := 94) rfl (hb hby d1_61) rfl (feq hc61_28).2 (by decide) (by decide) k) ?_
    show OwnEnds p.tables e below _ (s₁.setTop (mkF m 94 #[.val (.int (5 : Int32)), .val (.long q1), .second] []))
    refine own_via (fun t k => XS.iloadN X0.here hx rfl (hb hby d1_94) rfl k) ?_
    show OwnEnds p.tables e below _ (s₁.setTop (mkF m 95 #[.val (.int (5 : Int32)), .val (.long q1), .second] [(.int (5 : Int32))]))
    refine own_via (fun t k => XS.iconst X0.here hx rfl (hb hby d1_95) k) ?_
    show OwnEnds p.tables e below _ (s₁.setTop (mkF m 96 #[.val (.int (5 : Int32)), .val (.long q1), .second] [(.int (5 : Int32)), (.int (5 : Int32))]))
    have hc96_29 : (5 : Int32) = (5 : Int32) := by decide
    refine own_via (fun t k => XS.icmpNo X0.here hx rfl (hb hby d1_96) rfl (teq hc96_29).2 k) ?_
    show OwnEnds p.tables e below _ (s₁.setTop (mkF m 99 #[.val (.int (5 : Int32)), .val (.long q1), .second] []))
    refine own_via (fun t k => XS.iconst X0.here hx rfl (hb hby d1_99) k) ?_
    show OwnEnds p.tables e below _ (s₁.setTop (mkF m 100 #[.val (.int (5 : Int32)), .val (.long q1), .second] [(.int (5 : Int32))]))
    obtain ⟨T30, h30, k30, X30, e30, E30, A30, st30⟩ := newP X0 hx hZ (hw _ (List.mem_of_getElem? (i := 5) rfl)) e0 (g := (mkF m 100 #[.val (.int (5 : Int32)), .val (.long q1), .second] [(.int (5 : Int32))])) rfl (hb hby d1_100) rfl (by decide) (cap := 5) (by decide) (by decide) (by decide) (by decide)
    obtain ⟨b30, g30⟩ : ∃ z, z = h0.size := ⟨_, rfl⟩
    rw [← g30] at A30 st30
    have g_b30 : n0 ≤ b30 := Nat.le_trans Z0 (Nat.le_of_eq g30.symm)
    have sz_b30 : h0.size ≤ b30 := Nat.le_trans K0.1 (Nat.le_of_eq g30.symm)
    have Zs_30 : n0 ≤ _ := Nat.le_trans Z0 E30.1
    replace K0 := K0.ext E30
    have A_b30 : AL Z h30 b30 .long [(.long (0 : Int64)), (.long (0 : Int64)), (.long (0 : Int64)), (.long (0 : Int64)), (.long (0 : Int64))] := AL.new A30 (by decide) (i := 5) rfl
    refine own_via st30 ?_
    show OwnEnds p.tables e below _ (T30.setTop (mkF m 102 #[.val (.int (5 : Int32)), .val (.long q1), .second] [(.ref b30)]))
    refine own_via (fun t k => XS.dup X30.here hx rfl (hb hby d1_102) rfl rfl k) ?_
    show OwnEnds p.tables e below _ (T30.setTop (mkF m 103 #[.val (.int (5 : Int32)), .val (.long q1), .second] [(.ref b30), (.ref b30)]))
    refine own_via (fun t k => XS.iconst X30.here hx rfl (hb hby d1_103) k) ?_
    show OwnEnds p.tables e below _ (T30.setTop (mkF m 104 #[.val (.int (5 : Int32)), .val (.long q1), .second] [(.int (0 : Int32)), (.ref b30), (.ref b30)]))
    refine own_via (fun t k => XS.lloadN X30.here hx rfl (hb hby d1_104) rfl k) ?_
    show OwnEnds p.tables e below _ (T30.setTop (mkF m 105 #[.val (.int (5 : Int32)), .val (.long q1), .second] [(.long q1), (.int (0 : Int32)), (.ref b30), (.ref b30)]))
    obtain ⟨T31, h31, X31, e31, W31, AA31, st31⟩ := own_stJ X30 hx hZ e30 A_b30 0 rfl (Nat.le_of_ble_eq_true rfl) (g := (mkF m 105 #[.val (.int (5 : Int32)), .val (.long q1), .second] [(.long q1), (.int (0 : Int32)), (.ref b30), (.ref b30)])) rfl rfl (hb hby d1_105)
    replace K0 := K0.wr W31 (Or.inr sz_b30)
    have Zs_W31 : n0 ≤ _ := Nat.le_trans Zs_30 (Keep.of_wr W31).1
    replace A_b30 : AL Z h31 b30 .long [(.long q1), (.long (0 : Int64)), (.long (0 : Int64)), (.long (0 : Int64)), (.long (0 : Int64))] := AA31
    have N31 := Fr.snoc X31 N0 g_b30
    refine own_via st31 ?_
    show OwnEnds p.tables e below _ (T31.setTop (mkF m 106 #[.val (.int (5 : Int32)), .val (.long q1), .second] [(.ref b30)]))
    refine own_via (fun t k => XS.dup X31.here hx rfl (hb hby d1_106) rfl rfl k) ?_
    show OwnEnds p.tables e below _ (T31.setTop (mkF m 107 #[.val (.int (5 : Int32)), .val (.long q1), .second] [(.ref b30), (.ref b30)]))
    refine own_via (fun t k => XS.iconst X31.here hx rfl (hb hby d1_107) k) ?_
    show OwnEnds p.tables e below _ (T31.setTop (mkF m 108 #[.val (.int (5 : Int32)), .val (.long q1), .second] [(.int (1 : Int32)), (.ref b30), (.ref b30)]))
    refine own_via (fun t k => XS.lloadN X31.here hx rfl (hb hby d1_108) rfl k) ?_
    show OwnEnds p.tables e below _ (T31.setTop (mkF m 109 #[.val (.int (5 : Int32)), .val (.long q1), .second] [(.long q1), (.int (1 : Int32)), (.ref b30), (.ref b30)]))
    refine own_via (fun t k => XS.lconst X31.here hx rfl (hb hby d1_109) k) ?_
    show OwnEnds p.tables e below _ (T31.setTop (mkF m 110 #[.val (.int (5 : Int32)), .val (.long q1), .second] [(.long (1 : Int64)), (.long q1), (.int (1 : Int32)), (.ref b30), (.ref b30)]))
    refine own_via (fun t k => XS.ladd X31.here hx rfl (hb hby d1_110) rfl k) ?_
    show OwnEnds p.tables e below _ (T31.setTop (mkF m 111 #[.val (.int (5 : Int32)), .val (.long q1), .second] [(.long (q1 + (1 : Int64))), (.int (1 : Int32)), (.ref b30), (.ref b30)]))
    obtain ⟨T32, h32, X32, e32, W32, AA32, st32⟩ := own_stJ X31 hx hZ e31 A_b30 1 rfl (Nat.le_of_ble_eq_true rfl) (g := (mkF m 111 #[.val (.int (5 : Int32)), .val (.long q1), .second] [(.long (q1 + (1 : Int64))), (.int (1 : Int32)), (.ref b30), (.ref b30)])) rfl rfl (hb hby d1_111)
    replace K0 := K0.wr W32 (Or.inr sz_b30)
    have Zs_W32 : n0 ≤ _ := Nat.le_trans Zs_W31 (Keep.of_wr W32).1
    replace A_b30 : AL Z h32 b30 .long [(.long q1), (.long (q1 + (1 : Int64))), (.long (0 : Int64)), (.long (0 : Int64)), (.long (0 : Int64))] := AA32
    have N32 := Fr.snoc X32 N31 g_b30
    refine own_via st32 ?_
    show OwnEnds p.tables e below _ (T32.setTop (mkF m 112 #[.val (.int (5 : Int32)), .val (.long q1), .second] [(.ref b30)]))
    refine own_via (fun t k => XS.dup X32.here hx rfl (hb hby d1_112) rfl rfl k) ?_
    show OwnEnds p.tables e below _ (T32.setTop (mkF m 113 #[.val (.int (5 : Int32)), .val (.long q1), .second] [(.ref b30), (.ref b30)]))
    refine own_via (fun t k => XS.iconst X32.here hx rfl (hb hby d1_113) k) ?_
    show OwnEnds p.tables e below _ (T32.setTop (mkF m 114 #[.val (.int (5 : Int32)), .val (.long q1), .second] [(.int (2 : Int32)), (.ref b30), (.ref b30)]))
    refine own_via (fun t k => XS.lloadN X32.here hx rfl (hb hby d1_114) rfl k) ?_
    show OwnEnds p.tables e below _ (T32.setTop (mkF m 115 #[.val (.int (5 : Int32)), .val (.long q1), .second] [(.long q1), (.int (2 : Int32)), (.ref b30), (.ref b30)]))
    refine own_via (X32.ldc2Long hx hown (mvT hZ (hw _ (List.mem_of_getElem? (i := 19) rfl))) (g := (mkF m 115 #[.val (.int (5 : Int32)), .val (.long q1), .second] [(.long q1), (.int (2 : Int32)), (.ref b30), (.ref b30)])) rfl (hb hby d1_115)) ?_
    show OwnEnds p.tables e below _ (T32.setTop (mkF m 118 #[.val (.int (5 : Int32)), .val (.long q1), .second] [(.long (2 : Int64)), (.long q1), (.int (2 : Int32)), (.ref b30), (.ref b30)]))
    refine own_via (fun t k => XS.ladd X32.here hx rfl (hb hby d1_118) rfl k) ?_
    show OwnEnds p.tables e below _ (T32.setTop (mkF m 119 #[.val (.int (5 : Int32)), .val (.long q1), .second] [(.long (q1 + (2 : Int64))), (.int (2 : Int32)), (.ref b30), (.ref b30)]))
    obtain ⟨T33, h33, X33, e33, W33, AA33, st33⟩ := own_stJ X32 hx hZ e32 A_b30 2 rfl (Nat.le_of_ble_eq_true rfl) (g := (mkF m 119 #[.val (.int (5 : Int32)), .val (.long q1), .second] [(.long (q1 + (2 : Int64))), (.int (2 : Int32)), (.ref b30), (.ref b30)])) rfl rfl (hb hby d1_119)
    replace K0 := K0.wr W33 (Or.inr sz_b30)
    have Zs_W33 : n0 ≤ _ := Nat.le_trans Zs_W32 (Keep.of_wr W33).1
    replace A_b30 : AL Z h33 b30 .long [(.long q1), (.long (q1 + (1 : Int64))), (.long (q1 + (2 : Int64))), (.long (0 : Int64)), (.long (0 : Int64))] := AA33
    have N33 := Fr.snoc X33 N32 g_b30
    refine own_via st33 ?_
    show OwnEnds p.tables e below _ (T33.setTop (mkF m 120 #[.val (.int (5 : Int32)), .val (.long q1), .second] [(.ref b30)]))
    refine own_via (fun t k => XS.dup X33.here hx rfl (hb hby d1_120) rfl rfl k) ?_
    show OwnEnds p.tables e below _ (T33.setTop (mkF m 121 #[.val (.int (5 : Int32)), .val (.long q1), .second] [(.ref b30), (.ref b30)]))
    refine own_via (fun t k => XS.iconst X33.here hx rfl (hb hby d1_121) k) ?_
    show OwnEnds p.tables e below _ (T33.setTop (mkF m 122 #[.val (.int (5 : Int32)), .val (.long q1), .second] [(.int (3 : Int32)), (.ref b30), (.ref b30)]))
    refine own_via (fun t k => XS.lloadN X33.here hx rfl (hb hby d1_122) rfl k) ?_
    show OwnEnds p.tables e below _ (T33.setTop (mkF m 123 #[.val (.int (5 : Int32)), .val (.long q1), .second] [(.long q1), (.int (3 : Int32)), (.ref b30), (.ref b30)]))
    refine own_via (X33.ldc2Long hx hown (mvT hZ (hw _ (List.mem_of_getElem? (i := 20) rfl))) (g := (mkF m 123 #[.val (.int (5 : Int32)), .val (.long q1), .second] [(.long q1), (.int (3 : Int32)), (.ref b30), (.ref b30)])) rfl (hb hby d1_123)) ?_
    show OwnEnds p.tables e below _ (T33.setTop (mkF m 126 #[.val (.int (5 : Int32)), .val (.long q1), .second] [(.long (3 : Int64)), (.long q1), (.int (3 : Int32)), (.ref b30), (.ref b30)]))
    refine own_via (fun t k => XS.ladd X33.here hx rfl (hb hby d1_126) rfl k) ?_
    show OwnEnds p.tables e below _ (T33.setTop (mkF m 127 #[.val (.int (5 : Int32)), .val (.long q1), .second] [(.long (q1 + (3 : Int64))), (.int (3 : Int32)), (.ref b30), (.ref b30)]))
    obtain ⟨T34, h34, X34, e34, W34, AA34, st34⟩ := own_stJ X33 hx hZ e33 A_b30 3 rfl (Nat.le_of_ble_eq_true rfl) (g := (mkF m 127 #[.val (.int (5 : Int32)), .val (.long q1), .second] [(.long (q1 + (3 : Int64))), (.int (3 : Int32)), (.ref b30), (.ref b30)])) rfl rfl (hb hby d1_127)
    replace K0 := K0.wr W34 (Or.inr sz_b30)
    have Zs_W34 : n0 ≤ _ := Nat.le_trans Zs_W33 (Keep.of_wr W34).1
    replace A_b30 : AL Z h34 b30 .long [(.long q1), (.long (q1 + (1 : Int64))), (.long (q1 + (2 : Int64))), (.long (q1 + (3 : Int64))), (.long (0 : Int64))] := AA34
    have N34 := Fr.snoc X34 N33 g_b30
    refine own_via st34 ?_
    show OwnEnds p.tables e below _ (T34.setTop (mkF m 128 #[.val (.int (5 : Int32)), .val (.long q1), .second] [(.ref b30)]))
    refine own_via (fun t k => XS.dup X34.here hx rfl (hb hby d1_128) rfl rfl k) ?_
    show OwnEnds p.tables e below _ (T34.setTop (mkF m 129 #[.val (.int (5 : Int32)), .val (.long q1), .second] [(.ref b30), (.ref b30)]))
    refine own_via (fun t k => XS.iconst X34.here hx rfl (hb hby d1_129) k) ?_
    show OwnEnds p.tables e below _ (T34.setTop (mkF m 130 #[.val (.int (5 : Int32)), .val (.long q1), .second] [(.int (4 : Int32)), (.ref b30), (.ref b30)]))
    refine own_via (fun t k => XS.lloadN X34.here hx rfl (hb hby d1_130) rfl k) ?_
    show OwnEnds p.tables e below _ (T34.setTop (mkF m 131 #[.val (.int (5 : Int32)), .val (.long q1), .second] [(.long q1), (.int (4 : Int32)), (.ref b30), (.ref b30)]))
    refine own_via (X34.ldc2Long hx hown (mvT hZ (hw _ (List.mem_of_getElem? (i := 21) rfl))) (g := (mkF m 131 #[.val (.int (5 : Int32)), .val (.long q1), .second] [(.long q1), (.int (4 : Int32)), (.ref b30), (.ref b30)])) rfl (hb hby d1_131)) ?_
    show OwnEnds p.tables e below _ (T34.setTop (mkF m 134 #[.val (.int (5 : Int32)), .val (.long q1), .second] [(.long (4 : Int64)), (.long q1), (.int (4 : Int32)), (.ref b30), (.ref b30)]))
    refine own_via (fun t k => XS.ladd X34.here hx rfl (hb hby d1_134) rfl k) ?_
    show OwnEnds p.tables e below _ (T34.setTop (mkF m 135 #[.val (.int (5 : Int32)), .val (.long q1), .second] [(.long (q1 + (4 : Int64))), (.int (4 : Int32)), (.ref b30), (.ref b30)]))
    obtain ⟨T35, h35, X35, e35, W35, AA35, st35⟩ := own_stJ X34 hx hZ e34 A_b30 4 rfl (Nat.le_of_ble_eq_true rfl) (g := (mkF m 135 #[.val (.int (5 : Int32)), .val (.long q1), .second] [(.long (q1 + (4 : Int64))), (.int (4 : Int32)), (.ref b30), (.ref b30)])) rfl rfl (hb hby d1_135)
    replace K0 := K0.wr W35 (Or.inr sz_b30)
    have Zs_W35 : n0 ≤ _ := Nat.le_trans Zs_W34 (Keep.of_wr W35).1
    replace A_b30 : AL Z h35 b30 .long [(.long q1), (.long (q1 + (1 : Int64))), (.long (q1 + (2 : Int64))), (.long (q1 + (3 : Int64))), (.long (q1 + (4 : Int64)))] := AA35
    have N35 := Fr.snoc X35 N34 g_b30
    refine own_via st35 ?_
    show OwnEnds p.tables e below _ (T35.setTop (mkF m 136 #[.val (.int (5 : Int32)), .val (.long q1), .second] [(.ref b30)]))
    refine own_retA X35 hx Bd.returns rfl rfl hlk (hb hby d1_136) ?_ (by decide) (by decide)
    rw [e35]
    exact ⟨b30, rfl, N35, K0, sz_b30, by rw [own_l5]; exact A_b30⟩
  · skip
    show OwnEnds p.tables e below _ (s₁.setTop (mkF m 0 #[.val (.int (6 : Int32)), .val (.long q1), .second] []))
    refine own_via (fun t k => XS.iloadN X0.here hx rfl (hb hby d1_0) rfl k) ?_
    show OwnEnds p.tables e below _ (s₁.setTop (mkF m 1 #[.val (.int (6 : Int32)), .val (.long q1), .second] [(.int (6 : Int32))]))
    refine own_via (fun t k => XS.iconst X0.here hx rfl (hb hby d1_1) k) ?_
    show OwnEnds p.tables e below _ (s₁.setTop (mkF m 2 #[.val (.int (6 : Int32)), .val (.long q1), .second] [(.int (1 : Int32)), (.int (6 : Int32))]))
    have hc2_36 : ¬ ((6 : Int32) = (1 : Int32)) := by decide
    refine own_via (fun t k => XS.icmpYes X0.here hx rfl (pc0 := 2) (pc' := 13) rfl (hb hby d1_2) rfl (feq hc2_36).2 (by decide) (by decide) k) ?_
    show OwnEnds p.tables e below _ (s₁.setTop (mkF m 13 #[.val (.int (6 : Int32)), .val (.long q1), .second] []))
    refine own_via (fun t k => XS.iloadN X0.here hx rfl (hb hby d1_13) rfl k) ?_
    show OwnEnds p.tables e below _ (s₁.setTop (mkF m 14 #[.val (.int (6 : Int32)), .val (.long q1), .second] [(.int (6 : Int32))]))
    refine own_via (fun t k => XS.iconst X0.here hx rfl (hb hby d1_14) k) ?_
    show OwnEnds p.tables e below _ (s₁.setTop (mkF m 15 #[.val (.int (6 : Int32)), .val (.long q1), .second] [(.int (2 : Int32)), (.int (6 : Int32))]))
    have hc15_37 : ¬ ((6 : Int32) = (2 : Int32)) := by decide
    refine own_via (fun t k => XS.icmpYes X0.here hx rfl (pc0 := 15) (pc' := 32) rfl (hb hby d1_15) rfl (feq hc15_37).2 (by decide) (by decide) k) ?_
    show OwnEnds p.tables e below _ (s₁.setTop (mkF m 32 #[.val (.int (6 : Int32)), .val (.long q1), .second] []))
    refine own_via (fun t k => XS.iloadN X0.here hx rfl (hb hby d1_32) rfl k) ?_
    show OwnEnds p.tables e below _ (s₁.setTop (mkF m 33 #[.val (.int (6 : Int32)), .val (.long q1), .second] [(.int (6 : Int32))]))
    refine own_via (fun t k => XS.iconst X0.here hx rfl (hb hby d1_33) k) ?_
    show OwnEnds p.tables e below _ (s₁.setTop (mkF m 34 #[.val (.int (6 : Int32)), .val (.long q1), .second] [(.int (3 : Int32)), (.int (6 : Int32))]))
    have hc34_38 : ¬ ((6 : Int32) = (3 : Int32)) := by decide
    refine own_via (fun t k => XS.icmpYes X0.here hx rfl (pc0 := 34) (pc' := 59) rfl (hb hby d1_34) rfl (feq hc34_38).2 (by decide) (by decide) k) ?_
    show OwnEnds p.tables e below _ (s₁.setTop (mkF m 59 #[.val (.int (6 : Int32)), .val (.long q1), .second] []))
    refine own_via (fun t k => XS.iloadN X0.here hx rfl (hb hby d1_59) rfl k) ?_
    show OwnEnds p.tables e below _ (s₁.setTop (mkF m 60 #[.val (.int (6 : Int32)), .val (.long q1), .second] [(.int (6 : Int32))]))
    refine own_via (fun t k => XS.iconst X0.here hx rfl (hb hby d1_60) k) ?_
    show OwnEnds p.tables e below _ (s₁.setTop (mkF m 61 #[.val (.int (6 : Int32)), .val (.long q1), .second] [(.int (4 : Int32)), (.int (6 : Int32))]))
    have hc61_39 : ¬ ((6 : Int32) = (4 : Int32)) := by decide
    refine own_via (fun t k => XS.icmpYes X0.here hx rfl (pc0 := 61) (pc' := 94) rfl (hb hby d1_61) rfl (feq hc61_39).2 (by decide) (by decide) k) ?_
    show OwnEnds p.tables e below _ (s₁.setTop (mkF m 94 #[.val (.int (6 : Int32)), .val (.long q1), .second] []))
    refine own_via (fun t k => XS.iloadN X0.here hx rfl (hb hby d1_94) rfl k) ?_
    show OwnEnds p.tables e below _ (s₁.setTop (mkF m 95 #[.val (.int (6 : Int32)), .val (.long q1), .second] [(.int (6 : Int32))]))
    refine own_via (fun t k => XS.iconst X0.here hx rfl (hb hby d1_95) k) ?_
    show OwnEnds p.tables e below _ (s₁.setTop (mkF m 96 #[.val (.int (6 : Int32)), .val (.long q1), .second] [(.int (5 : Int32)), (.int (6 : Int32))]))
    have hc96_40 : ¬ ((6 : Int32) = (5 : Int32)) := by decide
    refine own_via (fun t k => XS.icmpYes X0.here hx rfl (pc0 := 96) (pc' := 137) rfl (hb hby d1_96) rfl (feq hc96_40).2 (by decide) (by decide) k) ?_
    show OwnEnds p.tables e below _ (s₁.setTop (mkF m 137 #[.val (.int (6 : Int32)), .val (.long q1), .second] []))
    refine own_via (fun t k => XS.iloadN X0.here hx rfl (hb hby d1_137) rfl k) ?_
    show OwnEnds p.tables e below _ (s₁.setTop (mkF m 138 #[.val (.int (6 : Int32)), .val (.long q1), .second] [(.int (6 : Int32))]))
    refine own_via (fun t k => XS.bipush X0.here hx rfl (hb hby d1_138) k) ?_
    show OwnEnds p.tables e below _ (s₁.setTop (mkF m 140 #[.val (.int (6 : Int32)), .val (.long q1), .second] [(.int (6 : Int32)), (.int (6 : Int32))]))
    have hc140_41 : (6 : Int32) = (6 : Int32) := by decide
    refine own_via (fun t k => XS.icmpNo X0.here hx rfl (hb hby d1_140) rfl (teq hc140_41).2 k) ?_
    show OwnEnds p.tables e below _ (s₁.setTop (mkF m 143 #[.val (.int (6 : Int32)), .val (.long q1), .second] []))
    refine own_via (fun t k => XS.bipush X0.here hx rfl (hb hby d1_143) k) ?_
    show OwnEnds p.tables e below _ (s₁.setTop (mkF m 145 #[.val (.int (6 : Int32)), .val (.long q1), .second] [(.int (6 : Int32))]))
    obtain ⟨T42, h42, k42, X42, e42, E42, A42, st42⟩ := newP X0 hx hZ (hw _ (List.mem_of_getElem? (i := 5) rfl)) e0 (g := (mkF m 145 #[.val (.int (6 : Int32)), .val (.long q1), .second] [(.int (6 : Int32))])) rfl (hb hby d1_145) rfl (by decide) (cap := 6) (by decide) (by decide) (by decide) (by decide)
    obtain ⟨b42, g42⟩ : ∃ z, z = h0.size := ⟨_, rfl⟩
    rw [← g42] at A42 st42
    have g_b42 : n0 ≤ b42 := Nat.le_trans Z0 (Nat.le_of_eq g42.symm)
    have sz_b42 : h0.size ≤ b42 := Nat.le_trans K0.1 (Nat.le_of_eq g42.symm)
    have Zs_42 : n0 ≤ _ := Nat.le_trans Z0 E42.1
    replace K0 := K0.ext E42
    have A_b42 : AL Z h42 b42 .long [(.long (0 : Int64)), (.long (0 : Int64)), (.long (0 : Int64)), (.long (0 : Int64)), (.long (0 : Int64)), (.long (0 : Int64))] := AL.new A42 (by decide) (i := 6) rfl
    refine own_via st42 ?_
    show OwnEnds p.tables e below _ (T42.setTop (mkF m 147 #[.val (.int (6 : Int32)), .val (.long q1), .second] [(.ref b42)]))
    refine own_via (fun t k => XS.dup X42.here hx rfl (hb hby d1_147) rfl rfl k) ?_
    show OwnEnds p.tables e below _ (T42.setTop (mkF m 148 #[.val (.int (6 : Int32)), .val (.long q1), .second] [(.ref b42), (.ref b42)]))
    refine own_via (fun t k => XS.iconst X42.here hx rfl (hb hby d1_148) k) ?_
    show OwnEnds p.tables e below _ (T42.setTop (mkF m 149 #[.val (.int (6 : Int32)), .val (.long q1), .second] [(.int (0 : Int32)), (.ref b42), (.ref b42)]))
    refine own_via (fun t k => XS.lloadN X42.here hx rfl (hb hby d1_149) rfl k) ?_
    show OwnEnds p.tables e below _ (T42.setTop (mkF m 150 #[.val (.int (6 : Int32)), .val (.long q1), .second] [(.long q1), (.int (0 : Int32)), (.ref b42), (.ref b42)]))
    obtain ⟨T43, h43, X43, e43, W43, AA43, st43⟩ := own_stJ X42 hx hZ e42 A_b42 0 rfl (Nat.le_of_ble_eq_true rfl) (g := (mkF m 150 #[.val (.int (6 : Int32)), .val (.long q1), .second] [(.long q1), (.int (0 : Int32)), (.ref b42), (.ref b42)])) rfl rfl (hb hby d1_150)
    replace K0 := K0.wr W43 (Or.inr sz_b42)
    have Zs_W43 : n0 ≤ _ := Nat.le_trans Zs_42 (Keep.of_wr W43).1
    replace A_b42 : AL Z h43 b42 .long [(.long q1), (.long (0 : Int64)), (.long (0 : Int64)), (.long (0 : Int64)), (.long (0 : Int64)), (.long (0 : Int64))] := AA43
    have N43 := Fr.snoc X43 N0 g_b42
    refine own_via st43 ?_
    show OwnEnds p.tables e below _ (T43.setTop (mkF m 151 #[.val (.int (6 : Int32)), .val (.long q1), .second] [(.ref b42)]))
    refine own_via (fun t k => XS.dup X43.here hx rfl (hb hby d1_151) rfl rfl k) ?_
    show OwnEnds p.tables e below _ (T43.setTop (mkF m 152 #[.val (.int (6 : Int32)), .val (.long q1), .second] [(.ref b42), (.ref b42)]))
    refine own_via (fun t k => XS.iconst X43.here hx rfl (hb hby d1_152) k) ?_
    show OwnEnds p.tables e below _ (T43.setTop (mkF m 153 #[.val (.int (6 : Int32)), .val (.long q1), .second] [(.int (1 : Int32)), (.ref b42), (.ref b42)]))
    refine own_via (fun t k => XS.lloadN X43.here hx rfl (hb hby d1_153) rfl k) ?_
    show OwnEnds p.tables e below _ (T43.setTop (mkF m 154 #[.val (.int (6 : Int32)), .val (.long q1), .second] [(.long q1), (.int (1 : Int32)), (.ref b42), (.ref b42)]))
    refine own_via (fun t k => XS.lconst X43.here hx rfl (hb hby d1_154) k) ?_
    show OwnEnds p.tables e below _ (T43.setTop (mkF m 155 #[.val (.int (6 : Int32)), .val (.long q1), .second] [(.long (1 : Int64)), (.long q1), (.int (1 : Int32)), (.ref b42), (.ref b42)]))
    refine own_via (fun t k => XS.ladd X43.here hx rfl (hb hby d1_155) rfl k) ?_
    show OwnEnds p.tables e below _ (T43.setTop (mkF m 156 #[.val (.int (6 : Int32)), .val (.long q1), .second] [(.long (q1 + (1 : Int64))), (.int (1 : Int32)), (.ref b42), (.ref b42)]))
    obtain ⟨T44, h44, X44, e44, W44, AA44, st44⟩ := own_stJ X43 hx hZ e43 A_b42 1 rfl (Nat.le_of_ble_eq_true rfl) (g := (mkF m 156 #[.val (.int (6 : Int32)), .val (.long q1), .second] [(.long (q1 + (1 : Int64))), (.int (1 : Int32)), (.ref b42), (.ref b42)])) rfl rfl (hb hby d1_156)
    replace K0 := K0.wr W44 (Or.inr sz_b42)
    have Zs_W44 : n0 ≤ _ := Nat.le_trans Zs_W43 (Keep.of_wr W44).1
    replace A_b42 : AL Z h44 b42 .long [(.long q1), (.long (q1 + (1 : Int64))), (.long (0 : Int64)), (.long (0 : Int64)), (.long (0 : Int64)), (.long (0 : Int64))] := AA44
    have N44 := Fr.snoc X44 N43 g_b42
    refine own_via st44 ?_
    show OwnEnds p.tables e below _ (T44.setTop (mkF m 157 #[.val (.int (6 : Int32)), .val (.long q1), .second] [(.ref b42)]))
    refine own_via (fun t k => XS.dup X44.here hx rfl (hb hby d1_157) rfl rfl k) ?_
    show OwnEnds p.tables e below _ (T44.setTop (mkF m 158 #[.val (.int (6 : Int32)), .val (.long q1), .second] [(.ref b42), (.ref b42)]))
    refine own_via (fun t k => XS.iconst X44.here hx rfl (hb hby d1_158) k) ?_
    show OwnEnds p.tables e below _ (T44.setTop (mkF m 159 #[.val (.int (6 : Int32)), .val (.long q1), .second] [(.int (2 : Int32)), (.ref b42), (.ref b42)]))
    refine own_via (fun t k => XS.lloadN X44.here hx rfl (hb hby d1_159) rfl k) ?_
    show OwnEnds p.tables e below _ (T44.setTop (mkF m 160 #[.val (.int (6 : Int32)), .val (.long q1), .second] [(.long q1), (.int (2 : Int32)), (.ref b42), (.ref b42)]))
    refine own_via (X44.ldc2Long hx hown (mvT hZ (hw _ (List.mem_of_getElem? (i := 19) rfl))) (g := (mkF m 160 #[.val (.int (6 : Int32)), .val (.long q1), .second] [(.long q1), (.int (2 : Int32)), (.ref b42), (.ref b42)])) rfl (hb hby d1_160)) ?_
    show OwnEnds p.tables e below _ (T44.setTop (mkF m 163 #[.val (.int (6 : Int32)), .val (.long q1), .second] [(.long (2 : Int64)), (.long q1), (.int (2 : Int32)), (.ref b42), (.ref b42)]))
    refine own_via (fun t k => XS.ladd X44.here hx rfl (hb hby d1_163) rfl k) ?_
    show OwnEnds p.tables e below _ (T44.setTop (mkF m 164 #[.val (.int (6 : Int32)), .val (.long q1), .second] [(.long (q1 + (2 : Int64))), (.int (2 : Int32)), (.ref b42), (.ref b42)]))
    obtain ⟨T45, h45, X45, e45, W45, AA45, st45⟩ := own_stJ X44 hx hZ e44 A_b42 2 rfl (Nat.le_of_ble_eq_true rfl) (g := (mkF m 164 #[.val (.int (6 : Int32)), .val (.long q1), .second] [(.long (q1 + (2 : Int64))), (.int (2 : Int32)), (.ref b42), (.ref b42)])) rfl rfl (hb hby d1_164)
    replace K0 := K0.wr W45 (Or.inr sz_b42)
    have Zs_W45 : n0 ≤ _ := Nat.le_trans Zs_W44 (Keep.of_wr W45).1
    replace A_b42 : AL Z h45 b42 .long [(.long q1), (.long (q1 + (1 : Int64))), (.long (q1 + (2 : Int64))), (.long (0 : Int64)), (.long (0 : Int64)), (.long (0 : Int64))] := AA45
    have N45 := Fr.snoc X45 N44 g_b42
    refine own_via st45 ?_
    show OwnEnds p.tables e below _ (T45.setTop (mkF m 165 #[.val (.int (6 : Int32)), .val (.long q1), .second] [(.ref b42)]))
    refine own_via (fun t k => XS.dup X45.here hx rfl (hb hby d1_165) rfl rfl k) ?_
    show OwnEnds p.tables e below _ (T45.setTop (mkF m 166 #[.val (.int (6 : Int32)), .val (.long q1), .second] [(.ref b42), (.ref b42)]))
    refine own_via (fun t k => XS.iconst X45.here hx rfl (hb hby d1_166) k) ?_
    show OwnEnds p.tables e below _ (T45.setTop (mkF m 167 #[.val (.int (6 : Int32)), .val (.long q1), .second] [(.int (3 : Int32)), (.ref b42), (.ref b42)]))
    refine own_via (fun t k => XS.lloadN X45.here hx rfl (hb hby d1_167) rfl k) ?_
    show OwnEnds p.tables e below _ (T45.setTop (mkF m 168 #[.val (.int (6 : Int32)), .val (.long q1), .second] [(.long q1), (.int (3 : Int32)), (.ref b42), (.ref b42)]))
    refine own_via (X45.ldc2Long hx hown (mvT hZ (hw _ (List.mem_of_getElem? (i := 20) rfl))) (g := (mkF m 168 #[.val (.int (6 : Int32)), .val (.long q1), .second] [(.long q1), (.int (3 : Int32)), (.ref b42), (.ref b42)])) rfl (hb hby d1_168)) ?_
    show OwnEnds p.tables e below _ (T45.setTop (mkF m 171 #[.val (.int (6 : Int32)), .val (.long q1), .second] [(.long (3 : Int64)), (.long q1), (.int (3 : Int32)), (.ref b42), (.ref b42)]))
    refine own_via (fun t k => XS.ladd X45.here hx rfl (hb hby d1_171) rfl k) ?_
    show OwnEnds p.tables e below _ (T45.setTop (mkF m 172 #[.val (.int (6 : Int32)), .val (.long q1), .second] [(.long (q1 + (3 : Int64))), (.int (3 : Int32)), (.ref b42), (.ref b42)]))
    obtain ⟨T46, h46, X46, e46, W46, AA46, st46⟩ := own_stJ X45 hx hZ e45 A_b42 3 rfl (Nat.le_of_ble_eq_true rfl) (g := (mkF m 172 #[.val (.int (6 : Int32)), .val (.long q1), .second] [(.long (q1 + (3 : Int64))), (.int (3 : Int32)), (.ref b42), (.ref b42)])) rfl rfl (hb hby d1_172)
    replace K0 := K0.wr W46 (Or.inr sz_b42)
    have Zs_W46 : n0 ≤ _ := Nat.le_trans Zs_W45 (Keep.of_wr W46).1
    replace A_b42 : AL Z h46 b42 .long [(.long q1), (.long (q1 + (1 : Int64))), (.long (q1 + (2 : Int64))), (.long (q1 + (3 : Int64))), (.long (0 : Int64)), (.long (0 : Int64))] := AA46
    have N46 := Fr.snoc X46 N45 g_b42
    refine own_via st46 ?_
    show OwnEnds p.tables e below _ (T46.setTop (mkF m 173 #[.val (.int (6 : Int32)), .val (.long q1), .second] [(.ref b42)]))
    refine own_via (fun t k => XS.dup X46.here hx rfl (hb hby d1_173) rfl rfl k) ?_
    show OwnEnds p.tables e below _ (T46.setTop (mkF m 174 #[.val (.int (6 : Int32)), .val (.long q1), .second] [(.ref b42), (.ref b42)]))
    refine own_via (fun t k => XS.iconst X46.here hx rfl (hb hby d1_174) k) ?_
    show OwnEnds p.tables e below _ (T46.setTop (mkF m 175 #[.val (.int (6 : Int32)), .val (.long q1), .second] [(.int (4 : Int32)), (.ref b42), (.ref b42)]))
    refine own_via (fun t k => XS.lloadN X46.here hx rfl (hb hby d1_175) rfl k) ?_
    show OwnEnds p.tables e below _ (T46.setTop (mkF m 176 #[.val (.int (6 : Int32)), .val (.long q1), .second] [(.long q1), (.int (4 : Int32)), (.ref b42), (.ref b42)]))
    refine own_via (X46.ldc2Long hx hown (mvT hZ (hw _ (List.mem_of_getElem? (i := 21) rfl))) (g := (mkF m 176 #[.val (.int (6 : Int32)), .val (.long q1), .second] [(.long q1), (.int (4 : Int32)), (.ref b42), (.ref b42)])) rfl (hb hby d1_176)) ?_
    show OwnEnds p.tables e below _ (T46.setTop (mkF m 179 #[.val (.int (6 : Int32)), .val (.long q1), .second] [(.long (4 : Int64)), (.long q1), (.int (4 : Int32)), (.ref b42), (.ref b42)]))
    refine own_via (fun t k => XS.ladd X46.here hx rfl (hb hby d1_179) rfl k) ?_
    show OwnEnds p.tables e below _ (T46.setTop (mkF m 180 #[.val (.int (6 : Int32)), .val (.long q1), .second] [(.long (q1 + (4 : Int64))), (.int (4 : Int32)), (.ref b42), (.ref b42)]))
    obtain ⟨T47, h47, X47, e47, W47, AA47, st47⟩ := own_stJ X46 hx hZ e46 A_b42 4 rfl (Nat.le_of_ble_eq_true rfl) (g := (mkF m 180 #[.val (.int (6 : Int32)), .val (.long q1), .second] [(.long (q1 + (4 : Int64))), (.int (4 : Int32)), (.ref b42), (.ref b42)])) rfl rfl (hb hby d1_180)
    replace K0 := K0.wr W47 (Or.inr sz_b42)
    have Zs_W47 : n0 ≤ _ := Nat.le_trans Zs_W46 (Keep.of_wr W47).1
    replace A_b42 : AL Z h47 b42 .long [(.long q1), (.long (q1 + (1 : Int64))), (.long (q1 + (2 : Int64))), (.long (q1 + (3 : Int64))), (.long (q1 + (4 : Int64))), (.long (0 : Int64))] := AA47
    have N47 := Fr.snoc X47 N46 g_b42
    refine own_via st47 ?_
    show OwnEnds p.tables e below _ (T47.setTop (mkF m 181 #[.val (.int (6 : Int32)), .val (.long q1), .second] [(.ref b42)]))
    refine own_via (fun t k => XS.dup X47.here hx rfl (hb hby d1_181) rfl rfl k) ?_
    show OwnEnds p.tables e below _ (T47.setTop (mkF m 182 #[.val (.int (6 : Int32)), .val (.long q1), .second] [(.ref b42), (.ref b42)]))
    refine own_via (fun t k => XS.iconst X47.here hx rfl (hb hby d1_182) k) ?_
    show OwnEnds p.tables e below _ (T47.setTop (mkF m 183 #[.val (.int (6 : Int32)), .val (.long q1), .second] [(.int (5 : Int32)), (.ref b42), (.ref b42)]))
    refine own_via (fun t k => XS.lloadN X47.here hx rfl (hb hby d1_183) rfl k) ?_
    show OwnEnds p.tables e below _ (T47.setTop (mkF m 184 #[.val (.int (6 : Int32)), .val (.long q1), .second] [(.long q1), (.int (5 : Int32)), (.ref b42), (.ref b42)]))
    refine own_via (X47.ldc2Long hx hown (mvT hZ (hw _ (List.mem_of_getElem? (i := 22) rfl))) (g := (mkF m 184 #[.val (.int (6 : Int32)), .val (.long q1), .second] [(.long q1), (.int (5 : Int32)), (.ref b42), (.ref b42)])) rfl (hb hby d1_184)) ?_
    show OwnEnds p.tables e below _ (T47.setTop (mkF m 187 #[.val (.int (6 : Int32)), .val (.long q1), .second] [(.long (5 : Int64)), (.long q1), (.int (5 : Int32)), (.ref b42), (.ref b42)]))
    refine own_via (fun t k => XS.ladd X47.here hx rfl (hb hby d1_187) rfl k) ?_
    show OwnEnds p.tables e below _ (T47.setTop (mkF m 188 #[.val (.int (6 : Int32)), .val (.long q1), .second] [(.long (q1 + (5 : Int64))), (.int (5 : Int32)), (.ref b42), (.ref b42)]))
    obtain ⟨T48, h48, X48, e48, W48, AA48, st48⟩ := own_stJ X47 hx hZ e47 A_b42 5 rfl (Nat.le_of_ble_eq_true rfl) (g := (mkF m 188 #[.val (.int (6 : Int32)), .val (.long q1), .second] [(.long (q1 + (5 : Int64))), (.int (5 : Int32)), (.ref b42), (.ref b42)])) rfl rfl (hb hby d1_188)
    replace K0 := K0.wr W48 (Or.inr sz_b42)
    have Zs_W48 : n0 ≤ _ := Nat.le_trans Zs_W47 (Keep.of_wr W48).1
    replace A_b42 : AL Z h48 b42 .long [(.long q1), (.long (q1 + (1 : Int64))), (.long (q1 + (2 : Int64))), (.long (q1 + (3 : Int64))), (.long (q1 + (4 : Int64))), (.long (q1 + (5 : Int64)))] := AA48
    have N48 := Fr.snoc X48 N47 g_b42
    refine own_via st48 ?_
    show OwnEnds p.tables e below _ (T48.setTop (mkF m 189 #[.val (.int (6 : Int32)), .val (.long q1), .second] [(.ref b42)]))
    refine own_retA X48 hx Bd.returns rfl rfl hlk (hb hby d1_189) ?_ (by decide) (by decide)
    rw [e48]
    exact ⟨b42, rfl, N48, K0, sz_b42, by rw [own_l6]; exact A_b42⟩
  · skip
    show OwnEnds p.tables e below _ (s₁.setTop (mkF m 0 #[.val (.int (7 : Int32)), .val (.long q1), .second] []))
    refine own_via (fun t k => XS.iloadN X0.here hx rfl (hb hby d1_0) rfl k) ?_
    show OwnEnds p.tables e below _ (s₁.setTop (mkF m 1 #[.val (.int (7 : Int32)), .val (.long q1), .second] [(.int (7 : Int32))]))
    refine own_via (fun t k => XS.iconst X0.here hx rfl (hb hby d1_1) k) ?_
    show OwnEnds p.tables e below _ (s₁.setTop (mkF m 2 #[.val (.int (7 : Int32)), .val (.long q1), .second] [(.int (1 : Int32)), (.int (7 : Int32))]))
    have hc2_49 : ¬ ((7 : Int32) = (1 : Int32)) := by decide
    refine own_via (fun t k => XS.icmpYes X0.here hx rfl (pc0 := 2) (pc' := 13) rfl (hb hby d1_2) rfl (feq hc2_49).2 (by decide) (by decide) k) ?_
    show OwnEnds p.tables e below _ (s₁.setTop (mkF m 13 #[.val (.int (7 : Int32)), .val (.long q1), .second] []))
    refine own_via (fun t k => XS.iloadN X0.here hx rfl (hb hby d1_13) rfl k) ?_
    show OwnEnds p.tables e below _ (s₁.setTop (mkF m 14 #[.val (.int (7 : Int32)), .val (.long q1), .second] [(.int (7 : Int32))]))
    refine own_via (fun t k => XS.iconst X0.here hx rfl (hb hby d1_14) k) ?_
    show OwnEnds p.tables e below _ (s₁.setTop (mkF m 15 #[.val (.int (7 : Int32)), .val (.long q1), .second] [(.int (2 : Int32)), (.int (7 : Int32))]))
    have hc15_50 : ¬ ((7 : Int32) = (2 : Int32)) := by decide
    refine own_via (fun t k => XS.icmpYes X0.here hx rfl (pc0 := 15) (pc' := 32) rfl (hb hby d1_15) rfl (feq hc15_50).2 (by decide) (by decide) k) ?_
    show OwnEnds p.tables e below _ (s₁.setTop (mkF m 32 #[.val (.int (7 : Int32)), .val (.long q1), .second] []))
    refine own_via (fun t k => XS.iloadN X0.here hx rfl (hb hby d1_32) rfl k) ?_
    show OwnEnds p.tables e below _ (s₁.setTop (mkF m 33 #[.val (.int (7 : Int32)), .val (.long q1), .second] [(.int (7 : Int32))]))
    refine own_via (fun t k => XS.iconst X0.here hx rfl (hb hby d1_33) k) ?_
    show OwnEnds p.tables e below _ (s₁.setTop (mkF m 34 #[.val (.int (7 : Int32)), .val (.long q1), .second] [(.int (3 : Int32)), (.int (7 : Int32))]))
    have hc34_51 : ¬ ((7 : Int32) = (3 : Int32)) := by decide
    refine own_via (fun t k => XS.icmpYes X0.here hx rfl (pc0 := 34) (pc' := 59) rfl (hb hby d1_34) rfl (feq hc34_51).2 (by decide) (by decide) k) ?_
    show OwnEnds p.tables e below _ (s₁.setTop (mkF m 59 #[.val (.int (7 : Int32)), .val (.long q1), .second] []))
    refine own_via (fun t k => XS.iloadN X0.here hx rfl (hb hby d1_59) rfl k) ?_
    show OwnEnds p.tables e below _ (s₁.setTop (mkF m 60 #[.val (.int (7 : Int32)), .val (.long q1), .second] [(.int (7 : Int32))]))
    refine own_via (fun t k => XS.iconst X0.here hx rfl (hb hby d1_60) k) ?_
    show OwnEnds p.tables e below _ (s₁.setTop (mkF m 61 #[.val (.int (7 : Int32)), .val (.long q1), .second] [(.int (4 : Int32)), (.int (7 : Int32))]))
    have hc61_52 : ¬ ((7 : Int32) = (4 : Int32)) := by decide
    refine own_via (fun t k => XS.icmpYes X0.here hx rfl (pc0 := 61) (pc' := 94) rfl (hb hby d1_61) rfl (feq hc61_52).2 (by decide) (by decide) k) ?_
    show OwnEnds p.tables e below _ (s₁.setTop (mkF m 94 #[.val (.int (7 : Int32)), .val (.long q1), .second] []))
    refine own_via (fun t k => XS.iloadN X0.here hx rfl (hb hby d1_94) rfl k) ?_
    show OwnEnds p.tables e below _ (s₁.setTop (mkF m 95 #[.val (.int (7 : Int32)), .val (.long q1), .second] [(.int (7 : Int32))]))
    refine own_via (fun t k => XS.iconst X0.here hx rfl (hb hby d1_95) k) ?_
    show OwnEnds p.tables e below _ (s₁.setTop (mkF m 96 #[.val (.int (7 : Int32)), .val (.long q1), .second] [(.int (5 : Int32)), (.int (7 : Int32))]))
    have hc96_53 : ¬ ((7 : Int32) = (5 : Int32)) := by decide
    refine own_via (fun t k => XS.icmpYes X0.here hx rfl (pc0 := 96) (pc' := 137) rfl (hb hby d1_96) rfl (feq hc96_53).2 (by decide) (by decide) k) ?_
    show OwnEnds p.tables e below _ (s₁.setTop (mkF m 137 #[.val (.int (7 : Int32)), .val (.long q1), .second] []))
    refine own_via (fun t k => XS.iloadN X0.here hx rfl (hb hby d1_137) rfl k) ?_
    show OwnEnds p.tables e below _ (s₁.setTop (mkF m 138 #[.val (.int (7 : Int32)), .val (.long q1), .second] [(.int (7 : Int32))]))
    refine own_via (fun t k => XS.bipush X0.here hx rfl (hb hby d1_138) k) ?_
    show OwnEnds p.tables e below _ (s₁.setTop (mkF m 140 #[.val (.int (7 : Int32)), .val (.long q1), .second] [(.int (6 : Int32)), (.int (7 : Int32))]))
    have hc140_54 : ¬ ((7 : Int32) = (6 : Int32)) := by decide
    refine own_via (fun t k => XS.icmpYes X0.here hx rfl (pc0 := 140) (pc' := 190) rfl (hb hby d1_140) rfl (feq hc140_54).2 (by decide) (by decide) k) ?_
    show OwnEnds p.tables e below _ (s₁.setTop (mkF m 190 #[.val (.int (7 : Int32)), .val (.long q1), .second] []))
    refine own_via (fun t k => XS.iloadN X0.here hx rfl (hb hby d1_190) rfl k) ?_
    show OwnEnds p.tables e below _ (s₁.setTop (mkF m 191 #[.val (.int (7 : Int32)), .val (.long q1), .second] [(.int (7 : Int32))]))
    refine own_via (fun t k => XS.bipush X0.here hx rfl (hb hby d1_191) k) ?_
    show OwnEnds p.tables e below _ (s₁.setTop (mkF m 193 #[.val (.int (7 : Int32)), .val (.long q1), .second] [(.int (7 : Int32)), (.int (7 : Int32))]))
    have hc193_55 : (7 : Int32) = (7 : Int32) := by decide
    refine own_via (fun t k => XS.icmpNo X0.here hx rfl (hb hby d1_193) rfl (teq hc193_55).2 k) ?_
    show OwnEnds p.tables e below _ (s₁.setTop (mkF m 196 #[.val (.int (7 : Int32)), .val (.long q1), .second] []))
    refine own_via (fun t k => XS.bipush X0.here hx rfl (hb hby d1_196) k) ?_
    show OwnEnds p.tables e below _ (s₁.setTop (mkF m 198 #[.val (.int (7 : Int32)), .val (.long q1), .second] [(.int (7 : Int32))]))
    obtain ⟨T56, h56, k56, X56, e56, E56, A56, st56⟩ := newP X0 hx hZ (hw _ (List.mem_of_getElem? (i := 5) rfl)) e0 (g := (mkF m 198 #[.val (.int (7 : Int32)), .val (.long q1), .second] [(.int (7 : Int32))])) rfl (hb hby d1_198) rfl (by decide) (cap := 7) (by decide) (by decide) (by decide) (by decide)
    obtain ⟨b56, g56⟩ : ∃ z, z = h0.size := ⟨_, rfl⟩
    rw [← g56] at A56 st56
    have g_b56 : n0 ≤ b56 := Nat.le_trans Z0 (Nat.le_of_eq g56.symm)
    have sz_b56 : h0.size ≤ b56 := Nat.le_trans K0.1 (Nat.le_of_eq g56.symm)
    have Zs_56 : n0 ≤ _ := Nat.le_trans Z0 E56.1
    replace K0 := K0.ext E56
    have A_b56 : AL Z h56 b56 .long [(.long (0 : Int64)), (.long (0 : Int64)), (.long (0 : Int64)), (.long (0 : Int64)), (.long (0 : Int64)), (.long (0 : Int64)), (.long (0 : Int64))] := AL.new A56 (by decide) (i := 7) rfl
    refine own_via st56 ?_
    show OwnEnds p.tables e below _ (T56.setTop (mkF m 200 #[.val (.int (7 : Int32)), .val (.long q1), .second] [(.ref b56)]))
    refine own_via (fun t k => XS.dup X56.here hx rfl (hb hby d1_200) rfl rfl k) ?_
    show OwnEnds p.tables e below _ (T56.setTop (mkF m 201 #[.val (.int (7 : Int32)), .val (.long q1), .second] [(.ref b56), (.ref b56)]))
    refine own_via (fun t k => XS.iconst X56.here hx rfl (hb hby d1_201) k) ?_
    show OwnEnds p.tables e below _ (T56.setTop (mkF m 202 #[.val (.int (7 : Int32)), .val (.long q1), .second] [(.int (0 : Int32)), (.ref b56), (.ref b56)]))
    refine own_via (fun t k => XS.lloadN X56.here hx rfl (hb hby d1_202) rfl k) ?_
    show OwnEnds p.tables e below _ (T56.setTop (mkF m 203 #[.val (.int (7 : Int32)), .val (.long q1), .second] [(.long q1), (.int (0 : Int32)), (.ref b56), (.ref b56)]))
    obtain ⟨T57, h57, X57, e57, W57, AA57, st57⟩ := own_stJ X56 hx hZ e56 A_b56 0 rfl (Nat.le_of_ble_eq_true rfl) (g := (mkF m 203 #[.val (.int (7 : Int32)), .val (.long q1), .second] [(.long q1), (.int (0 : Int32)), (.ref b56), (.ref b56)])) rfl rfl (hb hby d1_203)
    replace K0 := K0.wr W57 (Or.inr sz_b56)
    have Zs_W57 : n0 ≤ _ := Nat.le_trans Zs_56 (Keep.of_wr W57).1
    replace A_b56 : AL Z h57 b56 .long [(.long q1), (.long (0 : Int64)), (.long (0 : Int64)), (.long (0 : Int64)), (.long (0 : Int64)), (.long (0 : Int64)), (.long (0 : Int64))] := AA57
    have N57 := Fr.snoc X57 N0 g_b56
    refine own_via st57 ?_
    show OwnEnds p.tables e below _ (T57.setTop (mkF m 204 #[.val (.int (7 : Int32)), .val (.long q1), .second] [(.ref b56)]))
    refine own_via (fun t k => XS.dup X57.here hx rfl (hb hby d1_204) rfl rfl k) ?_
    show OwnEnds p.tables e below _ (T57.setTop (mkF m 205 #[.val (.int (7 : Int32)), .val (.long q1), .second] [(.ref b56), (.ref b56)]))
    refine own_via (fun t k => XS.iconst X57.here hx rfl (hb hby d1_205) k) ?_
    show OwnEnds p.tables e below _ (T57.setTop (mkF m 206 #[.val (.int (7 : Int32)), .val (.long q1), .second] [(.int (1 : Int32)), (.ref b56), (.ref b56)]))
    refine own_via (fun t k => XS.lloadN X57.here hx rfl (hb hby d1_206) rfl k) ?_
    show OwnEnds p.tables e below _ (T57.setTop (mkF m 207 #[.val (.int (7 : Int32)), .val (.long q1), .second] [(.long q1), (.int (1 : Int32)), (.ref b56), (.ref b56)]))
    refine own_via (fun t k => XS.lconst X57.here hx rfl (hb hby d1_207) k) ?_
    show OwnEnds p.tables e below _ (T57.setTop (mkF m 208 #[.val (.int (7 : Int32)), .val (.long q1), .second] [(.long (1 : Int64)), (.long q1), (.int (1 : Int32)), (.ref b56), (.ref b56)]))
    refine own_via (fun t k => XS.ladd X57.here hx rfl (hb hby d1_208) rfl k) ?_
    show OwnEnds p.tables e below _ (T57.setTop (mkF m 209 #[.val (.int (7 : Int32)), .val (.long q1), .second] [(.long (q1 + (1 : Int64))), (.int (1 : Int32)), (.ref b56), (.ref b56)]))
    obtain ⟨T58, h58, X58, e58, W58, AA58, st58⟩ := own_stJ X57 hx hZ e57 A_b56 1 rfl (Nat.le_of_ble_eq_true rfl) (g := (mkF m 209 #[.val (.int (7 : Int32)), .val (.long q1), .second] [(.long (q1 + (1 : Int64))), (.int (1 : Int32)), (.ref b56), (.ref b56)])) rfl rfl (hb hby d1_209)
    replace K0 := K0.wr W58 (Or.inr sz_b56)
    have Zs_W58 : n0 ≤ _ := Nat.le_trans Zs_W57 (Keep.of_wr W58).1
    replace A_b56 : AL Z h58 b56 .long [(.long q1), (.long (q1 + (1 : Int64))), (.long (0 : Int64)), (.long (0 : Int64)), (.long (0 : Int64)), (.long (0 : Int64)), (.long (0 : Int64))] := AA58
    have N58 := Fr.snoc X58 N57 g_b56
    refine own_via st58 ?_
    show OwnEnds p.tables e below _ (T58.setTop (mkF m 210 #[.val (.int (7 : Int32)), .val (.long q1), .second] [(.ref b56)]))
    refine own_via (fun t k => XS.dup X58.here hx rfl (hb hby d1_210) rfl rfl k) ?_
    show OwnEnds p.tables e below _ (T58.setTop (mkF m 211 #[.val (.int (7 : Int32)), .val (.long q1), .second] [(.ref b56), (.ref b56)]))
    refine own_via (fun t k => XS.iconst X58.here hx rfl (hb hby d1_211) k) ?_
    show OwnEnds p.tables e below _ (T58.setTop (mkF m 212 #[.val (.int (7 : Int32)), .val (.long q1), .second] [(.int (2 : Int32)), (.ref b56), (.ref b56)]))
    refine own_via (fun t k => XS.lloadN X58.here hx rfl (hb hby d1_212) rfl k) ?_
    show OwnEnds p.tables e below _ (T58.setTop (mkF m 213 #[.val (.int (7 : Int32)), .val (.long q1), .second] [(.long q1), (.int (2 : Int32)), (.ref b56), (.ref b56)]))
    refine own_via (X58.ldc2Long hx hown (mvT hZ (hw _ (List.mem_of_getElem? (i := 19) rfl))) (g := (mkF m 213 #[.val (.int (7 : Int32)), .val (.long q1), .second] [(.long q1), (.int (2 : Int32)), (.ref b56), (.ref b56)])) rfl (hb hby d1_213)) ?_
    show OwnEnds p.tables e below _ (T58.setTop (mkF m 216 #[.val (.int (7 : Int32)), .val (.long q1), .second] [(.long (2 : Int64)), (.long q1), (.int (2 : Int32)), (.ref b56), (.ref b56)]))
    refine own_via (fun t k => XS.ladd X58.here hx rfl (hb hby d1_216) rfl k) ?_
    show OwnEnds p.tables e below _ (T58.setTop (mkF m 217 #[.val (.int (7 : Int32)), .val (.long q1), .second] [(.long (q1 + (2 : Int64))), (.int (2 : Int32)), (.ref b56), (.ref b56)]))
    obtain ⟨T59, h59, X59, e59, W59, AA59, st59⟩ := own_stJ X58 hx hZ e58 A_b56 2 rfl (Nat.le_of_ble_eq_true rfl) (g := (mkF m 217 #[.val (.int (7 : Int32)), .val (.long q1), .second] [(.long (q1 + (2 : Int64))), (.int (2 : Int32)), (.ref b56), (.ref b56)])) rfl rfl (hb hby d1_217)
    replace K0 := K0.wr W59 (Or.inr sz_b56)
    have Zs_W59 : n0 ≤ _ := Nat.le_trans Zs_W58 (Keep.of_wr W59).1
    replace A_b56 : AL Z h59 b56 .long [(.long q1), (.long (q1 + (1 : Int64))), (.long (q1 + (2 : Int64))), (.long (0 : Int64)), (.long (0 : Int64)), (.long (0 : Int64)), (.long (0 : Int64))] := AA59
    have N59 := Fr.snoc X59 N58 g_b56
    refine own_via st59 ?_
    show OwnEnds p.tables e below _ (T59.setTop (mkF m 218 #[.val (.int (7 : Int32)), .val (.long q1), .second] [(.ref b56)]))
    refine own_via (fun t k => XS.dup X59.here hx rfl (hb hby d1_218) rfl rfl k) ?_
    show OwnEnds p.tables e below _ (T59.setTop (mkF m 219 #[.val (.int (7 : Int32)), .val (.long q1), .second] [(.ref b56), (.ref b56)]))
    refine own_via (fun t k => XS.iconst X59.here hx rfl (hb hby d1_219) k) ?_
    show OwnEnds p.tables e below _ (T59.setTop (mkF m 220 #[.val (.int (7 : Int32)), .val (.long q1), .second] [(.int (3 : Int32)), (.ref b56), (.ref b56)]))
    refine own_via (fun t k => XS.lloadN X59.here hx rfl (hb hby d1_220) rfl k) ?_
    show OwnEnds p.tables e below _ (T59.setTop (mkF m 221 #[.val (.int (7 : Int32)), .val (.long q1), .second] [(.long q1), (.int (3 : Int32)), (.ref b56), (.ref b56)]))
    refine own_via (X59.ldc2Long hx hown (mvT hZ (hw _ (List.mem_of_getElem? (i := 20) rfl))) (g := (mkF m 221 #[.val (.int (7 : Int32)), .val (.long q1), .second] [(.long q1), (.int (3 : Int32)), (.ref b56), (.ref b56)])) rfl (hb hby d1_221)) ?_
    show OwnEnds p.tables e below _ (T59.setTop (mkF m 224 #[.val (.int (7 : Int32)), .val (.long q1), .second] [(.long (3 : Int64)), (.long q1), (.int (3 : Int32)), (.ref b56), (.ref b56)]))
    refine own_via (fun t k => XS.ladd X59.here hx rfl (hb hby d1_224) rfl k) ?_
    show OwnEnds p.tables e below _ (T59.setTop (mkF m 225 #[.val (.int (7 : Int32)), .val (.long q1), .second] [(.long (q1 + (3 : Int64))), (.int (3 : Int32)), (.ref b56), (.ref b56)]))
    obtain ⟨T60, h60, X60, e60, W60, AA60, st60⟩ := own_stJ X59 hx hZ e59 A_b56 3 rfl (Nat.le_of_ble_eq_true rfl) (g := (mkF m 225 #[.val (.int (7 : Int32)), .val (.long q1), .second] [(.long (q1 + (3 : Int64))), (.int (3 : Int32)), (.ref b56), (.ref b56)])) rfl rfl (hb hby d1_225)
    replace K0 := K0.wr W60 (Or.inr sz_b56)
    have Zs_W60 : n0 ≤ _ := Nat.le_trans Zs_W59 (Keep.of_wr W60).1
    replace A_b56 : AL Z h60 b56 .long [(.long q1), (.long (q1 + (1 : Int64))), (.long (q1 + (2 : Int64))), (.long (q1 + (3 : Int64))), (.long (0 : Int64)), (.long (0 : Int64)), (.long (0 : Int64))] := AA60
    have N60 := Fr.snoc X60 N59 g_b56
    refine own_via st60 ?_
    show OwnEnds p.tables e below _ (T60.setTop (mkF m 226 #[.val (.int (7 : Int32)), .val (.long q1), .second] [(.ref b56)]))
    refine own_via (fun t k => XS.dup X60.here hx rfl (hb hby d1_226) rfl rfl k) ?_
    show OwnEnds p.tables e below _ (T60.setTop (mkF m 227 #[.val (.int (7 : Int32)), .val (.long q1), .second] [(.ref b56), (.ref b56)]))
    refine own_via (fun t k => XS.iconst X60.here hx rfl (hb hby d1_227) k) ?_
    show OwnEnds p.tables e below _ (T60.setTop (mkF m 228 #[.val (.int (7 : Int32)), .val (.long q1), .second] [(.int (4 : Int32)), (.ref b56), (.ref b56)]))
    refine own_via (fun t k => XS.lloadN X60.here hx rfl (hb hby d1_228) rfl k) ?_
    show OwnEnds p.tables e below _ (T60.setTop (mkF m 229 #[.val (.int (7 : Int32)), .val (.long q1), .second] [(.long q1), (.int (4 : Int32)), (.ref b56), (.ref b56)]))
    refine own_via (X60.ldc2Long hx hown (mvT hZ (hw _ (List.mem_of_getElem? (i := 21) rfl))) (g := (mkF m 229 #[.val (.int (7 : Int32)), .val (.long q1), .second] [(.long q1), (.int (4 : Int32)), (.ref b56), (.ref b56)])) rfl (hb hby d1_229)) ?_
    show OwnEnds p.tables e below _ (T60.setTop (mkF m 232 #[.val (.int (7 : Int32)), .val (.long q1), .second] [(.long (4 : Int64)), (.long q1), (.int (4 : Int32)), (.ref b56), (.ref b56)]))
    refine own_via (fun t k => XS.ladd X60.here hx rfl (hb hby d1_232) rfl k) ?_
    show OwnEnds p.tables e below _ (T60.setTop (mkF m 233 #[.val (.int (7 : Int32)), .val (.long q1), .second] [(.long (q1 + (4 : Int64))), (.int (4 : Int32)), (.ref b56), (.ref b56)]))
    obtain ⟨T61, h61, X61, e61, W61, AA61, st61⟩ := own_stJ X60 hx hZ e60 A_b56 4 rfl (Nat.le_of_ble_eq_true rfl) (g := (mkF m 233 #[.val (.int (7 : Int32)), .val (.long q1), .second] [(.long (q1 + (4 : Int64))), (.int (4 : Int32)), (.ref b56), (.ref b56)])) rfl rfl (hb hby d1_233)
    replace K0 := K0.wr W61 (Or.inr sz_b56)
    have Zs_W61 : n0 ≤ _ := Nat.le_trans Zs_W60 (Keep.of_wr W61).1
    replace A_b56 : AL Z h61 b56 .long [(.long q1), (.long (q1 + (1 : Int64))), (.long (q1 + (2 : Int64))), (.long (q1 + (3 : Int64))), (.long (q1 + (4 : Int64))), (.long (0 : Int64)), (.long (0 : Int64))] := AA61
    have N61 := Fr.snoc X61 N60 g_b56
    refine own_via st61 ?_
    show OwnEnds p.tables e below _ (T61.setTop (mkF m 234 #[.val (.int (7 : Int32)), .val (.long q1), .second] [(.ref b56)]))
    refine own_via (fun t k => XS.dup X61.here hx rfl (hb hby d1_234) rfl rfl k) ?_
    show OwnEnds p.tables e below _ (T61.setTop (mkF m 235 #[.val (.int (7 : Int32)), .val (.long q1), .second] [(.ref b56), (.ref b56)]))
    refine own_via (fun t k => XS.iconst X61.here hx rfl (hb hby d1_235) k) ?_
    show OwnEnds p.tables e below _ (T61.setTop (mkF m 236 #[.val (.int (7 : Int32)), .val (.long q1), .second] [(.int (5 : Int32)), (.ref b56), (.ref b56)]))
    refine own_via (fun t k => XS.lloadN X61.here hx rfl (hb hby d1_236) rfl k) ?_
    show OwnEnds p.tables e below _ (T61.setTop (mkF m 237 #[.val (.int (7 : Int32)), .val (.long q1), .second] [(.long q1), (.int (5 : Int32)), (.ref b56), (.ref b56)]))
    refine own_via (X61.ldc2Long hx hown (mvT hZ (hw _ (List.mem_of_getElem? (i := 22) rfl))) (g := (mkF m 237 #[.val (.int (7 : Int32)), .val (.long q1), .second] [(.long q1), (.int (5 : Int32)), (.ref b56), (.ref b56)])) rfl (hb hby d1_237)) ?_
    show OwnEnds p.tables e below _ (T61.setTop (mkF m 240 #[.val (.int (7 : Int32)), .val (.long q1), .second] [(.long (5 : Int64)), (.long q1), (.int (5 : Int32)), (.ref b56), (.ref b56)]))
    refine own_via (fun t k => XS.ladd X61.here hx rfl (hb hby d1_240) rfl k) ?_
    show OwnEnds p.tables e below _ (T61.setTop (mkF m 241 #[.val (.int (7 : Int32)), .val (.long q1), .second] [(.long (q1 + (5 : Int64))), (.int (5 : Int32)), (.ref b56), (.ref b56)]))
    obtain ⟨T62, h62, X62, e62, W62, AA62, st62⟩ := own_stJ X61 hx hZ e61 A_b56 5 rfl (Nat.le_of_ble_eq_true rfl) (g := (mkF m 241 #[.val (.int (7 : Int32)), .val (.long q1), .second] [(.long (q1 + (5 : Int64))), (.int (5 : Int32)), (.ref b56), (.ref b56)])) rfl rfl (hb hby d1_241)
    replace K0 := K0.wr W62 (Or.inr sz_b56)
    have Zs_W62 : n0 ≤ _ := Nat.le_trans Zs_W61 (Keep.of_wr W62).1
    replace A_b56 : AL Z h62 b56 .long [(.long q1), (.long (q1 + (1 : Int64))), (.long (q1 + (2 : Int64))), (.long (q1 + (3 : Int64))), (.long (q1 + (4 : Int64))), (.long (q1 + (5 : Int64))), (.long (0 : Int64))] := AA62
    have N62 := Fr.snoc X62 N61 g_b56
    refine own_via st62 ?_
    show OwnEnds p.tables e below _ (T62.setTop (mkF m 242 #[.val (.int (7 : Int32)), .val (.long q1), .second] [(.ref b56)]))
    refine own_via (fun t k => XS.dup X62.here hx rfl (hb hby d1_242) rfl rfl k) ?_
    show OwnEnds p.tables e below _ (T62.setTop (mkF m 243 #[.val (.int (7 : Int32)), .val (.long q1), .second] [(.ref b56), (.ref b56)]))
    refine own_via (fun t k => XS.bipush X62.here hx rfl (hb hby d1_243) k) ?_
    show OwnEnds p.tables e below _ (T62.setTop (mkF m 245 #[.val (.int (7 : Int32)), .val (.long q1), .second] [(.int (6 : Int32)), (.ref b56), (.ref b56)]))
    refine own_via (fun t k => XS.lloadN X62.here hx rfl (hb hby d1_245) rfl k) ?_
    show OwnEnds p.tables e below _ (T62.setTop (mkF m 246 #[.val (.int (7 : Int32)), .val (.long q1), .second] [(.long q1), (.int (6 : Int32)), (.ref b56), (.ref b56)]))
    refine own_via (X62.ldc2Long hx hown (mvT hZ (hw _ (List.mem_of_getElem? (i := 23) rfl))) (g := (mkF m 246 #[.val (.int (7 : Int32)), .val (.long q1), .second] [(.long q1), (.int (6 : Int32)), (.ref b56), (.ref b56)])) rfl (hb hby d1_246)) ?_
    show OwnEnds p.tables e below _ (T62.setTop (mkF m 249 #[.val (.int (7 : Int32)), .val (.long q1), .second] [(.long (6 : Int64)), (.long q1), (.int (6 : Int32)), (.ref b56), (.ref b56)]))
    refine own_via (fun t k => XS.ladd X62.here hx rfl (hb hby d1_249) rfl k) ?_
    show OwnEnds p.tables e below _ (T62.setTop (mkF m 250 #[.val (.int (7 : Int32)), .val (.long q1), .second] [(.long (q1 + (6 : Int64))), (.int (6 : Int32)), (.ref b56), (.ref b56)]))
    obtain ⟨T63, h63, X63, e63, W63, AA63, st63⟩ := own_stJ X62 hx hZ e62 A_b56 6 rfl (Nat.le_of_ble_eq_true rfl) (g := (mkF m 250 #[.val (.int (7 : Int32)), .val (.long q1), .second] [(.long (q1 + (6 : Int64))), (.int (6 : Int32)), (.ref b56), (.ref b56)])) rfl rfl (hb hby d1_250)
    replace K0 := K0.wr W63 (Or.inr sz_b56)
    have Zs_W63 : n0 ≤ _ := Nat.le_trans Zs_W62 (Keep.of_wr W63).1
    replace A_b56 : AL Z h63 b56 .long [(.long q1), (.long (q1 + (1 : Int64))), (.long (q1 + (2 : Int64))), (.long (q1 + (3 : Int64))), (.long (q1 + (4 : Int64))), (.long (q1 + (5 : Int64))), (.long (q1 + (6 : Int64)))] := AA63
    have N63 := Fr.snoc X63 N62 g_b56
    refine own_via st63 ?_
    show OwnEnds p.tables e below _ (T63.setTop (mkF m 251 #[.val (.int (7 : Int32)), .val (.long q1), .second] [(.ref b56)]))
    refine own_retA X63 hx Bd.returns rfl rfl hlk (hb hby d1_251) ?_ (by decide) (by decide)
    rw [e63]
    exact ⟨b56, rfl, N63, K0, sz_b56, by rw [own_l7]; exact A_b56⟩
  · skip
    show OwnEnds p.tables e below _ (s₁.setTop (mkF m 0 #[.val (.int (8 : Int32)), .val (.long q1), .second] []))
    refine own_via (fun t k => XS.iloadN X0.here hx rfl (hb hby d1_0) rfl k) ?_
    show OwnEnds p.tables e below _ (s₁.setTop (mkF m 1 #[.val (.int (8 : Int32)), .val (.long q1), .second] [(.int (8 : Int32))]))
    refine own_via (fun t k => XS.iconst X0.here hx rfl (hb hby d1_1) k) ?_
    show OwnEnds p.tables e below _ (s₁.setTop (mkF m 2 #[.val (.int (8 : Int32)), .val (.long q1), .second] [(.int (1 : Int32)), (.int (8 : Int32))]))
    have hc2_64 : ¬ ((8 : Int32) = (1 : Int32)) := by decide
    refine own_via (fun t k => XS.icmpYes X0.here hx rfl (pc0 := 2) (pc' := 13) rfl (hb hby d1_2) rfl (feq hc2_64).2 (by decide) (by decide) k) ?_
    show OwnEnds p.tables e below _ (s₁.setTop (mkF m 13 #[.val (.int (8 : Int32)), .val (.long q1), .second] []))
    refine own_via (fun t k => XS.iloadN X0.here hx rfl (hb hby d1_13) rfl k) ?_
    show OwnEnds p.tables e below _ (s₁.setTop (mkF m 14 #[.val (.int (8 : Int32)), .val (.long q1), .second] [(.int (8 : Int32))]))
    refine own_via (fun t k => XS.iconst X0.here hx rfl (hb hby d1_14) k) ?_
    show OwnEnds p.tables e below _ (s₁.setTop (mkF m 15 #[.val (.int (8 : Int32)), .val (.long q1), .second] [(.int (2 : Int32)), (.int (8 : Int32))]))
    have hc15_65 : ¬ ((8 : Int32) = (2 : Int32)) := by decide
    refine own_via (fun t k => XS.icmpYes X0.here hx rfl (pc0 := 15) (pc' := 32) rfl (hb hby d1_15) rfl (feq hc15_65).2 (by decide) (by decide) k) ?_
    show OwnEnds p.tables e below _ (s₁.setTop (mkF m 32 #[.val (.int (8 : Int32)), .val (.long q1), .second] []))
    refine own_via (fun t k => XS.iloadN X0.here hx rfl (hb hby d1_32) rfl k) ?_
    show OwnEnds p.tables e below _ (s₁.setTop (mkF m 33 #[.val (.int (8 : Int32)), .val (.long q1), .second] [(.int (8 : Int32))]))
    refine own_via (fun t k => XS.iconst X0.here hx rfl (hb hby d1_33) k) ?_
    show OwnEnds p.tables e below _ (s₁.setTop (mkF m 34 #[.val (.int (8 : Int32)), .val (.long q1), .second] [(.int (3 : Int32)), (.int (8 : Int32))]))
    have hc34_66 : ¬ ((8 : Int32) = (3 : Int32)) := by decide
    refine own_via (fun t k => XS.icmpYes X0.here hx rfl (pc0 := 34) (pc' := 59) rfl (hb hby d1_34) rfl (feq hc34_66).2 (by decide) (by decide) k) ?_
    show OwnEnds p.tables e below _ (s₁.setTop (mkF m 59 #[.val (.int (8 : Int32)), .val (.long q1), .second] []))
    refine own_via (fun t k => XS.iloadN X0.here hx rfl (hb hby d1_59) rfl k) ?_
    show OwnEnds p.tables e below _ (s₁.setTop (mkF m 60 #[.val (.int (8 : Int32)), .val (.long q1), .second] [(.int (8 : Int32))]))
    refine own_via (fun t k => XS.iconst X0.here hx rfl (hb hby d1_60) k) ?_
    show OwnEnds p.tables e below _ (s₁.setTop (mkF m 61 #[.val (.int (8 : Int32)), .val (.long q1), .second] [(.int (4 : Int32)), (.int (8 : Int32))]))
    have hc61_67 : ¬ ((8 : Int32) = (4 : Int32)) := by decide
    refine own_via (fun t k => XS.icmpYes X0.here hx rfl (pc0 := 61) (pc' := 94) rfl (hb hby d1_61) rfl (feq hc61_67).2 (by decide) (by decide) k) ?_
    show OwnEnds p.tables e below _ (s₁.setTop (mkF m 94 #[.val (.int (8 : Int32)), .val (.long q1), .second] []))
    refine own_via (fun t k => XS.iloadN X0.here hx rfl (hb hby d1_94) rfl k) ?_
    show OwnEnds p.tables e below _ (s₁.setTop (mkF m 95 #[.val (.int (8 : Int32)), .val (.long q1), .second] [(.int (8 : Int32))]))
    refine own_via (fun t k => XS.iconst X0.here hx rfl (hb hby d1_95) k) ?_
    show OwnEnds p.tables e below _ (s₁.setTop (mkF m 96 #[.val (.int (8 : Int32)), .val (.long q1), .second] [(.int (5 : Int32)), (.int (8 : Int32))]))
    have hc96_68 : ¬ ((8 : Int32) = (5 : Int32)) := by decide
    refine own_via (fun t k => XS.icmpYes X0.here hx rfl (pc0 := 96) (pc' := 137) rfl (hb hby d1_96) rfl (feq hc96_68).2 (by decide) (by decide) k) ?_
    show OwnEnds p.tables e below _ (s₁.setTop (mkF m 137 #[.val (.int (8 : Int32)), .val (.long q1), .second] []))
    refine own_via (fun t k => XS.iloadN X0.here hx rfl (hb hby d1_137) rfl k) ?_
    show OwnEnds p.tables e below _ (s₁.setTop (mkF m 138 #[.val (.int (8 : Int32)), .val (.long q1), .second] [(.int (8 : Int32))]))
    refine own_via (fun t k => XS.bipush X0.here hx rfl (hb hby d1_138) k) ?_
    show OwnEnds p.tables e below _ (s₁.setTop (mkF m 140 #[.val (.int (8 : Int32)), .val (.long q1), .second] [(.int (6 : Int32)), (.int (8 : Int32))]))
    have hc140_69 : ¬ ((8 : Int32) = (6 : Int32)) := by decide
    refine own_via (fun t k => XS.icmpYes X0.here hx rfl (pc0 := 140) (pc' := 190) rfl (hb hby d1_140) rfl (feq hc140_69).2 (by decide) (by decide) k) ?_
    show OwnEnds p.tables e below _ (s₁.setTop (mkF m 190 #[.val (.int (8 : Int32)), .val (.long q1), .second] []))
    refine own_via (fun t k => XS.iloadN X0.here hx rfl (hb hby d1_190) rfl k) ?_
    show OwnEnds p.tables e below _ (s₁.setTop (mkF m 191 #[.val (.int (8 : Int32)), .val (.long q1), .second] [(.int (8 : Int32))]))
    refine own_via (fun t k => XS.bipush X0.here hx rfl (hb hby d1_191) k) ?_
    show OwnEnds p.tables e below _ (s₁.setTop (mkF m 193 #[.val (.int (8 : Int32)), .val (.long q1), .second] [(.int (7 : Int32)), (.int (8 : Int32))]))
    have hc193_70 : ¬ ((8 : Int32) = (7 : Int32)) := by decide
    refine own_via (fun t k => XS.icmpYes X0.here hx rfl (pc0 := 193) (pc' := 252) rfl (hb hby d1_193) rfl (feq hc193_70).2 (by decide) (by decide) k) ?_
    show OwnEnds p.tables e below _ (s₁.setTop (mkF m 252 #[.val (.int (8 : Int32)), .val (.long q1), .second] []))
    refine own_via (fun t k => XS.bipush X0.here hx rfl (hb hby d1_252) k) ?_
    show OwnEnds p.tables e below _ (s₁.setTop (mkF m 254 #[.val (.int (8 : Int32)), .val (.long q1), .second] [(.int (8 : Int32))]))
    obtain ⟨T71, h71, k71, X71, e71, E71, A71, st71⟩ := newP X0 hx hZ (hw _ (List.mem_of_getElem? (i := 5) rfl)) e0 (g := (mkF m 254 #[.val (.int (8 : Int32)), .val (.long q1), .second] [(.int (8 : Int32))])) rfl (hb hby d1_254) rfl (by decide) (cap := 8) (by decide) (by decide) (by decide) (by decide)
    obtain ⟨b71, g71⟩ : ∃ z, z = h0.size := ⟨_, rfl⟩
    rw [← g71] at A71 st71
    have g_b71 : n0 ≤ b71 := Nat.le_trans Z0 (Nat.le_of_eq g71.symm)
    have sz_b71 : h0.size ≤ b71 := Nat.le_trans K0.1 (Nat.le_of_eq g71.symm)
    have Zs_71 : n0 ≤ _ := Nat.le_trans Z0 E71.1
    replace K0 := K0.ext E71
    have A_b71 : AL Z h71 b71 .long [(.long (0 : Int64)), (.long (0 : Int64)), (.long (0 : Int64)), (.long (0 : Int64)), (.long (0 : Int64)), (.long (0 : Int64)), (.long (0 : Int64)), (.long (0 : Int64))] := AL.new A71 (by decide) (i := 8) rfl
    refine own_via st71 ?_
    show OwnEnds p.tables e below _ (T71.setTop (mkF m 256 #[.val (.int (8 : Int32)), .val (.long q1), .second] [(.ref b71)]))
    refine own_via (fun t k => XS.dup X71.here hx rfl (hb hby d1_256) rfl rfl k) ?_
    show OwnEnds p.tables e below _ (T71.setTop (mkF m 257 #[.val (.int (8 : Int32)), .val (.long q1), .second] [(.ref b71), (.ref b71)]))
    refine own_via (fun t k => XS.iconst X71.here hx rfl (hb hby d1_257) k) ?_
    show OwnEnds p.tables e below _ (T71.setTop (mkF m 258 #[.val (.int (8 : Int32)), .val (.long q1), .second] [(.int (0 : Int32)), (.ref b71), (.ref b71)]))
    refine own_via (fun t k => XS.lloadN X71.here hx rfl (hb hby d1_258) rfl k) ?_
    show OwnEnds p.tables e below _ (T71.setTop (mkF m 259 #[.val (.int (8 : Int32)), .val (.long q1), .second] [(.long q1), (.int (0 : Int32)), (.ref b71), (.ref b71)]))
    obtain ⟨T72, h72, X72, e72, W72, AA72, st72⟩ := own_stJ X71 hx hZ e71 A_b71 0 rfl (Nat.le_of_ble_eq_true rfl) (g := (mkF m 259 #[.val (.int (8 : Int32)), .val (.long q1), .second] [(.long q1), (.int (0 : Int32)), (.ref b71), (.ref b71)])) rfl rfl (hb hby d1_259)
    replace K0 := K0.wr W72 (Or.inr sz_b71)
    have Zs_W72 : n0 ≤ _ := Nat.le_trans Zs_71 (Keep.of_wr W72).1
    replace A_b71 : AL Z h72 b71 .long [(.long q1), (.long (0 : Int64)), (.long (0 : Int64)), (.long (0 : Int64)), (.long (0 : Int64)), (.long (0 : Int64)), (.long (0 : Int64)), (.long (0 : Int64))] := AA72
    have N72 := Fr.snoc X72 N0 g_b71
    refine own_via st72 ?_
    show OwnEnds p.tables e below _ (T72.setTop (mkF m 260 #[.val (.int (8 : Int32)), .val (.long q1), .second] [(.ref b71)]))
    refine own_via (fun t k => XS.dup X72.here hx rfl (hb hby d1_260) rfl rfl k) ?_
    show OwnEnds p.tables e below _ (T72.setTop (mkF m 261 #[.val (.int (8 : Int32)), .val (.long q1), .second] [(.ref b71), (.ref b71)]))
    refine own_via (fun t k => XS.iconst X72.here hx rfl (hb hby d1_261) k) ?_
    show OwnEnds p.tables e below _ (T72.setTop (mkF m 262 #[.val (.int (8 : Int32)), .val (.long q1), .second] [(.int (1 : Int32)), (.ref b71), (.ref b71)]))
    refine own_via (fun t k => XS.lloadN X72.here hx rfl (hb hby d1_262) rfl k) ?_
    show OwnEnds p.tables e below _ (T72.setTop (mkF m 263 #[.val (.int (8 : Int32)), .val (.long q1), .second] [(.long q1), (.int (1 : Int32)), (.ref b71), (.ref b71)]))
    refine own_via (fun t k => XS.lconst X72.here hx rfl (hb hby d1_263) k) ?_
    show OwnEnds p.tables e below _ (T72.setTop (mkF m 264 #[.val (.int (8 : Int32)), .val (.long q1), .second] [(.long (1 : Int64)), (.long q1), (.int (1 : Int32)), (.ref b71), (.ref b71)]))
    refine own_via (fun t k => XS.ladd X72.here hx rfl (hb hby d1_264) rfl k) ?_
    show OwnEnds p.tables e below _ (T72.setTop (mkF m 265 #[.val (.int (8 : Int32)), .val (.long q1), .second] [(.long (q1 + (1 : Int64))), (.int (1 : Int32)), (.ref b71), (.ref b71)]))
    obtain ⟨T73, h73, X73, e73, W73, AA73, st73⟩ := own_stJ X72 hx hZ e72 A_b71 1 rfl (Nat.le_of_ble_eq_true rfl) (g := (mkF m 265 #[.val (.int (8 : Int32)), .val (.long q1), .second] [(.long (q1 + (1 : Int64))), (.int (1 : Int32)), (.ref b71), (.ref b71)])) rfl rfl (hb hby d1_265)
    replace K0 := K0.wr W73 (Or.inr sz_b71)
    have Zs_W73 : n0 ≤ _ := Nat.le_trans Zs_W72 (Keep.of_wr W73).1
    replace A_b71 : AL Z h73 b71 .long [(.long q1), (.long (q1 + (1 : Int64))), (.long (0 : Int64)), (.long (0 : Int64)), (.long (0 : Int64)), (.long (0 : Int64)), (.long (0 : Int64)), (.long (0 : Int64))] := AA73
    have N73 := Fr.snoc X73 N72 g_b71
    refine own_via st73 ?_
    show OwnEnds p.tables e below _ (T73.setTop (mkF m 266 #[.val (.int (8 : Int32)), .val (.long q1), .second] [(.ref b71)]))
    refine own_via (fun t k => XS.dup X73.here hx rfl (hb hby d1_266) rfl rfl k) ?_
    show OwnEnds p.tables e below _ (T73.setTop (mkF m 267 #[.val (.int (8 : Int32)), .val (.long q1), .second] [(.ref b71), (.ref b71)]))
    refine own_via (fun t k => XS.iconst X73.here hx rfl (hb hby d1_267) k) ?_
    show OwnEnds p.tables e below _ (T73.setTop (mkF m 268 #[.val (.int (8 : Int32)), .val (.long q1), .second] [(.int (2 : Int32)), (.ref b71), (.ref b71)]))
    refine own_via (fun t k => XS.lloadN X73.here hx rfl (hb hby d1_268) rfl k) ?_
    show OwnEnds p.tables e below _ (T73.setTop (mkF m 269 #[.val (.int (8 : Int32)), .val (.long q1), .second] [(.long q1), (.int (2 : Int32)), (.ref b71), (.ref b71)]))
    refine own_via (X73.ldc2Long hx hown (mvT hZ (hw _ (List.mem_of_getElem? (i := 19) rfl))) (g := (mkF m 269 #[.val (.int (8 : Int32)), .val (.long q1), .second] [(.long q1), (.int (2 : Int32)), (.ref b71), (.ref b71)])) rfl (hb hby d1_269)) ?_
    show OwnEnds p.tables e below _ (T73.setTop (mkF m 272 #[.val (.int (8 : Int32)), .val (.long q1), .second] [(.long (2 : Int64)), (.long q1), (.int (2 : Int32)), (.ref b71), (.ref b71)]))
    refine own_via (fun t k => XS.ladd X73.here hx rfl (hb hby d1_272) rfl k) ?_
    show OwnEnds p.tables e below _ (T73.setTop (mkF m 273 #[.val (.int (8 : Int32)), .val (.long q1), .second] [(.long (q1 + (2 : Int64))), (.int (2 : Int32)), (.ref b71), (.ref b71)]))
    obtain ⟨T74, h74, X74, e74, W74, AA74, st74⟩ := own_stJ X73 hx hZ e73 A_b71 2 rfl (Nat.le_of_ble_eq_true rfl) (g := (mkF m 273 #[.val (.int (8 : Int32)), .val (.long q1), .second] [(.long (q1 + (2 : Int64))), (.int (2 : Int32)), (.ref b71), (.ref b71)])) rfl rfl (hb hby d1_273)
    replace K0 := K0.wr W74 (Or.inr sz_b71)
    have Zs_W74 : n0 ≤ _ := Nat.le_trans Zs_W73 (Keep.of_wr W74).1
    replace A_b71 : AL Z h74 b71 .long [(.long q1), (.long (q1 + (1 : Int64))), (.long (q1 + (2 : Int64))), (.long (0 : Int64)), (.long (0 : Int64)), (.long (0 : Int64)), (.long (0 : Int64)), (.long (0 : Int64))] := AA74
    have N74 := Fr.snoc X74 N73 g_b71
    refine own_via st74 ?_
    show OwnEnds p.tables e below _ (T74.setTop (mkF m 274 #[.val (.int (8 : Int32)), .val (.long q1), .second] [(.ref b71)]))
    refine own_via (fun t k => XS.dup X74.here hx rfl (hb hby d1_274) rfl rfl k) ?_
    show OwnEnds p.tables e below _ (T74.setTop (mkF m 275 #[.val (.int (8 : Int32)), .val (.long q1), .second] [(.ref b71), (.ref b71)]))
    refine own_via (fun t k => XS.iconst X74.here hx rfl (hb hby d1_275) k) ?_
    show OwnEnds p.tables e below _ (T74.setTop (mkF m 276 #[.val (.int (8 : Int32)), .val (.long q1), .second] [(.int (3 : Int32)), (.ref b71), (.ref b71)]))
    refine own_via (fun t k => XS.lloadN X74.here hx rfl (hb hby d1_276) rfl k) ?_
    show OwnEnds p.tables e below _ (T74.setTop (mkF m 277 #[.val (.int (8 : Int32)), .val (.long q1), .second] [(.long q1), (.int (3 : Int32)), (.ref b71), (.ref b71)]))
    refine own_via (X74.ldc2Long hx hown (mvT hZ (hw _ (List.mem_of_getElem? (i := 20) rfl))) (g := (mkF m 277 #[.val (.int (8 : Int32)), .val (.long q1), .second] [(.long q1), (.int (3 : Int32)), (.ref b71), (.ref b71)])) rfl (hb hby d1_277)) ?_
    show OwnEnds p.tables e below _ (T74.setTop (mkF m 280 #[.val (.int (8 : Int32)), .val (.long q1), .second] [(.long (3 : Int64)), (.long q1), (.int (3 : Int32)), (.ref b71), (.ref b71)]))
    refine own_via (fun t k => XS.ladd X74.here hx rfl (hb hby d1_280) rfl k) ?_
    show OwnEnds p.tables e below _ (T74.setTop (mkF m 281 #[.val (.int (8 : Int32)), .val (.long q1), .second] [(.long (q1 + (3 : Int64))), (.int (3 : Int32)), (.ref b71), (.ref b71)]))
    obtain ⟨T75, h75, X75, e75, W75, AA75, st75⟩ := own_stJ X74 hx hZ e74 A_b71 3 rfl (Nat.le_of_ble_eq_true rfl) (g := (mkF m 281 #[.val (.int (8 : Int32)), .val (.long q1), .second] [(.long (q1 + (3 : Int64))), (.int (3 : Int32)), (.ref b71), (.ref b71)])) rfl rfl (hb hby d1_281)
    replace K0 := K0.wr W75 (Or.inr sz_b71)
    have Zs_W75 : n0 ≤ _ := Nat.le_trans Zs_W74 (Keep.of_wr W75).1
    replace A_b71 : AL Z h75 b71 .long [(.long q1), (.long (q1 + (1 : Int64))), (.long (q1 + (2 : Int64))), (.long (q1 + (3 : Int64))), (.long (0 : Int64)), (.long (0 : Int64)), (.long (0 : Int64)), (.long (0 : Int64))] := AA75
    have N75 := Fr.snoc X75 N74 g_b71
    refine own_via st75 ?_
    show OwnEnds p.tables e below _ (T75.setTop (mkF m 282 #[.val (.int (8 : Int32)), .val (.long q1), .second] [(.ref b71)]))
    refine own_via (fun t k => XS.dup X75.here hx rfl (hb hby d1_282) rfl rfl k) ?_
    show OwnEnds p.tables e below _ (T75.setTop (mkF m 283 #[.val (.int (8 : Int32)), .val (.long q1), .second] [(.ref b71), (.ref b71)]))
    refine own_via (fun t k => XS.iconst X75.here hx rfl (hb hby d1_283) k) ?_
    show OwnEnds p.tables e below _ (T75.setTop (mkF m 284 #[.val (.int (8 : Int32)), .val (.long q1), .second] [(.int (4 : Int32)), (.ref b71), (.ref b71)]))
    refine own_via (fun t k => XS.lloadN X75.here hx rfl (hb hby d1_284) rfl k) ?_
    show OwnEnds p.tables e below _ (T75.setTop (mkF m 285 #[.val (.int (8 : Int32)), .val (.long q1), .second] [(.long q1), (.int (4 : Int32)), (.ref b71), (.ref b71)]))
    refine own_via (X75.ldc2Long hx hown (mvT hZ (hw _ (List.mem_of_getElem? (i := 21) rfl))) (g := (mkF m 285 #[.val (.int (8 : Int32)), .val (.long q1), .second] [(.long q1), (.int (4 : Int32)), (.ref b71), (.ref b71)])) rfl (hb hby d1_285)) ?_
    show OwnEnds p.tables e below _ (T75.setTop (mkF m 288 #[.val (.int (8 : Int32)), .val (.long q1), .second] [(.long (4 : Int64)), (.long q1), (.int (4 : Int32)), (.ref b71), (.ref b71)]))
    refine own_via (fun t k => XS.ladd X75.here hx rfl (hb hby d1_288) rfl k) ?_
    show OwnEnds p.tables e below _ (T75.setTop (mkF m 289 #[.val (.int (8 : Int32)), .val (.long q1), .second] [(.long (q1 + (4 : Int64))), (.int (4 : Int32)), (.ref b71), (.ref b71)]))
    obtain ⟨T76, h76, X76, e76, W76, AA76, st76⟩ := own_stJ X75 hx hZ e75 A_b71 4 rfl (Nat.le_of_ble_eq_true rfl) (g := (mkF m 289 #[.val (.int (8 : Int32)), .val (.long q1), .second] [(.long (q1 + (4 : Int64))), (.int (4 : Int32)), (.ref b71), (.ref b71)])) rfl rfl (hb hby d1_289)
    replace K0 := K0.wr W76 (Or.inr sz_b71)
    have Zs_W76 : n0 ≤ _ := Nat.le_trans Zs_W75 (Keep.of_wr W76).1
    replace A_b71 : AL Z h76 b71 .long [(.long q1), (.long (q1 + (1 : Int64))), (.long (q1 + (2 : Int64))), (.long (q1 + (3 : Int64))), (.long (q1 + (4 : Int64))), (.long (0 : Int64)), (.long (0 : Int64)), (.long (0 : Int64))] := AA76
    have N76 := Fr.snoc X76 N75 g_b71
    refine own_via st76 ?_
    show OwnEnds p.tables e below _ (T76.setTop (mkF m 290 #[.val (.int (8 : Int32)), .val (.long q1), .second] [(.ref b71)]))
    refine own_via (fun t k => XS.dup X76.here hx rfl (hb hby d1_290) rfl rfl k) ?_
    show OwnEnds p.tables e below _ (T76.setTop (mkF m 291 #[.val (.int (8 : Int32)), .val (.long q1), .second] [(.ref b71), (.ref b71)]))
    refine own_via (fun t k => XS.iconst X76.here hx rfl (hb hby d1_291) k) ?_
    show OwnEnds p.tables e below _ (T76.setTop (mkF m 292 #[.val (.int (8 : Int32)), .val (.long q1), .second] [(.int (5 : Int32)), (.ref b71), (.ref b71)]))
    refine own_via (fun t k => XS.lloadN X76.here hx rfl (hb hby d1_292) rfl k) ?_
    show OwnEnds p.tables e below _ (T76.setTop (mkF m 293 #[.val (.int (8 : Int32)), .val (.long q1), .second] [(.long q1), (.int (5 : Int32)), (.ref b71), (.ref b71)]))
    refine own_via (X76.ldc2Long hx hown (mvT hZ (hw _ (List.mem_of_getElem? (i := 22) rfl))) (g := (mkF m 293 #[.val (.int (8 : Int32)), .val (.long q1), .second] [(.long q1), (.int (5 : Int32)), (.ref b71), (.ref b71)])) rfl (hb hby d1_293)) ?_
    show OwnEnds p.tables e below _ (T76.setTop (mkF m 296 #[.val (.int (8 : Int32)), .val (.long q1), .second] [(.long (5 : Int64)), (.long q1), (.int (5 : Int32)), (.ref b71), (.ref b71)]))
    refine own_via (fun t k => XS.ladd X76.here hx rfl (hb hby d1_296) rfl k) ?_
    show OwnEnds p.tables e below _ (T76.setTop (mkF m 297 #[.val (.int (8 : Int32)), .val (.long q1), .second] [(.long (q1 + (5 : Int64))), (.int (5 : Int32)), (.ref b71), (.ref b71)]))
    obtain ⟨T77, h77, X77, e77, W77, AA77, st77⟩ := own_stJ X76 hx hZ e76 A_b71 5 rfl (Nat.le_of_ble_eq_true rfl) (g := (mkF m 297 #[.val (.int (8 : Int32)), .val (.long q1), .second] [(.long (q1 + (5 : Int64))), (.int (5 : Int32)), (.ref b71), (.ref b71)])) rfl rfl (hb hby d1_297)
    replace K0 := K0.wr W77 (Or.inr sz_b71)
    have Zs_W77 : n0 ≤ _ := Nat.le_trans Zs_W76 (Keep.of_wr W77).1
    replace A_b71 : AL Z h77 b71 .long [(.long q1), (.long (q1 + (1 : Int64))), (.long (q1 + (2 : Int64))), (.long (q1 + (3 : Int64))), (.long (q1 + (4 : Int64))), (.long (q1 + (5 : Int64))), (.long (0 : Int64)), (.long (0 : Int64))] := AA77
    have N77 := Fr.snoc X77 N76 g_b71
    refine own_via st77 ?_
    show OwnEnds p.tables e below _ (T77.setTop (mkF m 298 #[.val (.int (8 : Int32)), .val (.long q1), .second] [(.ref b71)]))
    refine own_via (fun t k => XS.dup X77.here hx rfl (hb hby d1_298) rfl rfl k) ?_
    show OwnEnds p.tables e below _ (T77.setTop (mkF m 299 #[.val (.int (8 : Int32)), .val (.long q1), .second] [(.ref b71), (.ref b71)]))
    refine own_via (fun t k => XS.bipush X77.here hx rfl (hb hby d1_299) k) ?_
    show OwnEnds p.tables e below _ (T77.setTop (mkF m 301 #[.val (.int (8 : Int32)), .val (.long q1), .second] [(.int (6 : Int32)), (.ref b71), (.ref b71)]))
    refine own_via (fun t k => XS.lloadN X77.here hx rfl (hb hby d1_301) rfl k) ?_
    show OwnEnds p.tables e below _ (T77.setTop (mkF m 302 #[.val (.int (8 : Int32)), .val (.long q1), .second] [(.long q1), (.int (6 : Int32)), (.ref b71), (.ref b71)]))
    refine own_via (X77.ldc2Long hx hown (mvT hZ (hw _ (List.mem_of_getElem? (i := 23) rfl))) (g := (mkF m 302 #[.val (.int (8 : Int32)), .val (.long q1), .second] [(.long q1), (.int (6 : Int32)), (.ref b71), (.ref b71)])) rfl (hb hby d1_302)) ?_
    show OwnEnds p.tables e below _ (T77.setTop (mkF m 305 #[.val (.int (8 : Int32)), .val (.long q1), .second] [(.long (6 : Int64)), (.long q1), (.int (6 : Int32)), (.ref b71), (.ref b71)]))
    refine own_via (fun t k => XS.ladd X77.here hx rfl (hb hby d1_305) rfl k) ?_
    show OwnEnds p.tables e below _ (T77.setTop (mkF m 306 #[.val (.int (8 : Int32)), .val (.long q1), .second] [(.long (q1 + (6 : Int64))), (.int (6 : Int32)), (.ref b71), (.ref b71)]))
    obtain ⟨T78, h78, X78, e78, W78, AA78, st78⟩ := own_stJ X77 hx hZ e77 A_b71 6 rfl (Nat.le_of_ble_eq_true rfl) (g := (mkF m 306 #[.val (.int (8 : Int32)), .val (.long q1), .second] [(.long (q1 + (6 : Int64))), (.int (6 : Int32)), (.ref b71), (.ref b71)])) rfl rfl (hb hby d1_306)
    replace K0 := K0.wr W78 (Or.inr sz_b71)
    have Zs_W78 : n0 ≤ _ := Nat.le_trans Zs_W77 (Keep.of_wr W78).1
    replace A_b71 : AL Z h78 b71 .long [(.long q1), (.long (q1 + (1 : Int64))), (.long (q1 + (2 : Int64))), (.long (q1 + (3 : Int64))), (.long (q1 + (4 : Int64))), (.long (q1 + (5 : Int64))), (.long (q1 + (6 : Int64))), (.long (0 : Int64))] := AA78
    have N78 := Fr.snoc X78 N77 g_b71
    refine own_via st78 ?_
    show OwnEnds p.tables e below _ (T78.setTop (mkF m 307 #[.val (.int (8 : Int32)), .val (.long q1), .second] [(.ref b71)]))
    refine own_via (fun t k => XS.dup X78.here hx rfl (hb hby d1_307) rfl rfl k) ?_
    show OwnEnds p.tables e below _ (T78.setTop (mkF m 308 #[.val (.int (8 : Int32)), .val (.long q1), .second] [(.ref b71), (.ref b71)]))
    refine own_via (fun t k => XS.bipush X78.here hx rfl (hb hby d1_308) k) ?_
    show OwnEnds p.tables e below _ (T78.setTop (mkF m 310 #[.val (.int (8 : Int32)), .val (.long q1), .second] [(.int (7 : Int32)), (.ref b71), (.ref b71)]))
    refine own_via (fun t k => XS.lloadN X78.here hx rfl (hb hby d1_310) rfl k) ?_
    show OwnEnds p.tables e below _ (T78.setTop (mkF m 311 #[.val (.int (8 : Int32)), .val (.long q1), .second] [(.long q1), (.int (7 : Int32)), (.ref b71), (.ref b71)]))
    refine own_via (X78.ldc2Long hx hown (mvT hZ (hw _ (List.mem_of_getElem? (i := 24) rfl))) (g := (mkF m 311 #[.val (.int (8 : Int32)), .val (.long q1), .second] [(.long q1), (.int (7 : Int32)), (.ref b71), (.ref b71)])) rfl (hb hby d1_311)) ?_
    show OwnEnds p.tables e below _ (T78.setTop (mkF m 314 #[.val (.int (8 : Int32)), .val (.long q1), .second] [(.long (7 : Int64)), (.long q1), (.int (7 : Int32)), (.ref b71), (.ref b71)]))
    refine own_via (fun t k => XS.ladd X78.here hx rfl (hb hby d1_314) rfl k) ?_
    show OwnEnds p.tables e below _ (T78.setTop (mkF m 315 #[.val (.int (8 : Int32)), .val (.long q1), .second] [(.long (q1 + (7 : Int64))), (.int (7 : Int32)), (.ref b71), (.ref b71)]))
    obtain ⟨T79, h79, X79, e79, W79, AA79, st79⟩ := own_stJ X78 hx hZ e78 A_b71 7 rfl (Nat.le_of_ble_eq_true rfl) (g := (mkF m 315 #[.val (.int (8 : Int32)), .val (.long q1), .second] [(.long (q1 + (7 : Int64))), (.int (7 : Int32)), (.ref b71), (.ref b71)])) rfl rfl (hb hby d1_315)
    replace K0 := K0.wr W79 (Or.inr sz_b71)
    have Zs_W79 : n0 ≤ _ := Nat.le_trans Zs_W78 (Keep.of_wr W79).1
    replace A_b71 : AL Z h79 b71 .long [(.long q1), (.long (q1 + (1 : Int64))), (.long (q1 + (2 : Int64))), (.long (q1 + (3 : Int64))), (.long (q1 + (4 : Int64))), (.long (q1 + (5 : Int64))), (.long (q1 + (6 : Int64))), (.long (q1 + (7 : Int64)))] := AA79
    have N79 := Fr.snoc X79 N78 g_b71
    refine own_via st79 ?_
    show OwnEnds p.tables e below _ (T79.setTop (mkF m 316 #[.val (.int (8 : Int32)), .val (.long q1), .second] [(.ref b71)]))
    refine own_retA X79 hx Bd.returns rfl rfl hlk (hb hby d1_316) ?_ (by decide) (by decide)
    rw [e79]
    exact ⟨b71, rfl, N79, K0, sz_b71, by rw [own_l8]; exact A_b71⟩
theorem d3_0 : decode jdk_29_method_65_code 0 = .ok (.iload_n 0, 1) := by decide +kernel
theorem d3_1 : decode jdk_29_method_65_code 1 = .ok (.iload_n 1, 1) := by decide +kernel
theorem d3_2 : decode jdk_29_method_65_code 2 = .ok (.if_icmp .lt 7, 3) := by decide +kernel
theorem d3_5 : decode jdk_29_method_65_code 5 = .ok (.iload_n 0, 1) := by decide +kernel
theorem d3_6 : decode jdk_29_method_65_code 6 = .ok (.goto 4, 3) := by decide +kernel
theorem d3_9 : decode jdk_29_method_65_code 9 = .ok (.iload_n 1, 1) := by decide +kernel
theorem d3_10 : decode jdk_29_method_65_code 10 = .ok (.ireturn, 1) := by decide +kernel
theorem ef_3 (m : MethodId) (p0 : Int32) (p1 : Int32) : entryFrame m #[(.int p0), (.int p1)] 2 = mkF m 0 #[.val (.int p0), .val (.int p1)] [] := by first | (simp [entryFrame, mkF, argsToLocals, Value.category]; done) | rfl
def Q3 (Z : State) (p0 : Int32) (p1 : Int32) (h0 : Heap) (n0 : Nat) (v : Option Value) (h : Heap) (L : List Loc) : Prop := v = some (.int (own_maxI p0 p1)) ∧ Fr n0 L ∧ h = h0
set_option maxRecDepth 65536 in
set_option maxHeartbeats 40000000 in
theorem rm3 (l : Launch) (Z : State) (aw : Array Value) (hw : ∀ d ∈ tables_1, d.before aw Z = true) (ws : List Jvm.Cond) (p0 : Int32) (p1 : Int32) (h0 : Heap) (n0 : Nat) (Z0 : n0 ≤ h0.size) :
    MetFree l (⟨"java/lang/Math", "max", "(II)I"⟩ : MethodName) (head1 (Jvm.Cond.code (⟨"java/lang/Math", "max", "(II)I"⟩ : MethodName) jdk_29_method_65_code 2 (some .int) :: ws) ({ frames := 0, cells := 0, slots := 0, locals := 0 } : Room)) (fun a U => a = #[(.int p0), (.int p1)] ∧ Z.Warmed39 U.vm ∧ U.heap = h0) (fun _ _ _ _ _ => True) (fun _ U o U' => ∃ v L, o = .returned v ∧ Q3 Z p0 p1 h0 n0 v U'.heap L ∧ FrameEnd U o U' L ({ frames := 0, cells := 0, slots := 0, locals := 0 } : Room).cells ({ frames := 0, cells := 0, slots := 0, locals := 0 } : Room).slots) := by
  refine MetFree.of_bodySF (Jvm.Free.JP.mathPlain rfl (by decide +kernel)) hisR ?_
  intro p e s m args below meth c s₁ Bd hml0 hP hK
  obtain ⟨rfl, hZ, hh⟩ := hP
  have hx := Bd.exec
  have hby := Bd.bytes
  have hml : c.maxLocals = 2 := hml0
  have hown : s.vm.findClass "java/lang/Math" = some m.cls := findClass_of_methodNamed Bd.named
  have hnm := (name_of_methodNamed Bd.named Bd.method).1
  have hlk : meth.locks = false := Bd.notSynchronized
  have X0 : Stand p l e ({ frames := 0, cells := 0, slots := 0, locals := 0 } : Room) s m #[(.int p0), (.int p1)] below meth c s₁ [] 0 0 := Stand.of_body Bd
  have e0 : s₁.heap = h0 := by rw [← hh, Bd.state]; rfl
  have N0 := Fr.nil n0
  show OwnEnds p.tables e below (OwnQ s ({ frames := 0, cells := 0, slots := 0, locals := 0 } : Room).cells ({ frames := 0, cells := 0, slots := 0, locals := 0 } : Room).slots (Q3 Z p0 p1 h0 n0)) (s₁.setTop (entryFrame m #[(.int p0), (.int p1)] 2))
  refine own_via (fun t k => castTop (ef_3 m p0 p1) k) ?_
  show OwnEnds p.tables e below _ (s₁.setTop (mkF m 0 #[.val (.int p0), .val (.int p1)] []))
  refine own_via (fun t k => XS.iloadN X0.here hx rfl (hb hby d3_0) rfl k) ?_
  show OwnEnds p.tables e below _ (s₁.setTop (mkF m 1 #[.val (.int p0), .val (.int p1)] [(.int p0)]))
  refine own_via (fun t k => XS.iloadN X0.here hx rfl (hb hby d3_1) rfl k) ?_
  show OwnEnds p.tables e below _ (s₁.setTop (mkF m 2 #[.val (.int p0), .val (.int p1)] [(.int p1), (.int p0)]))
  by_cases hc2_1 : p0 < p1
  · skip
    refine own_via (fun t k => XS.icmpYes X0.here hx rfl (pc0 := 2) (pc' := 9) rfl (hb hby d3_2) rfl (tlt hc2_1).1 (by decide) (by decide) k) ?_
    show OwnEnds p.tables e below _ (s₁.setTop (mkF m 9 #[.val (.int p0), .val (.int p1)] []))
    refine own_via (fun t k => XS.iloadN X0.here hx rfl (hb hby d3_9) rfl k) ?_
    show OwnEnds p.tables e below _ (s₁.setTop (mkF m 10 #[.val (.int p0), .val (.int p1)] [(.int p1)]))
    refine own_retI X0 hx Bd.returns hlk (hb hby d3_10) ?_ (by decide) (by decide)
    rw [e0]
    exact ⟨congrArg (fun z => some (Value.int z)) (show p1 = own_maxI p0 p1 by simp only [own_maxI, if_pos hc2_1]), N0, rfl⟩
  · skip
    refine own_via (fun t k => XS.icmpNo X0.here hx rfl (hb hby d3_2) rfl (flt hc2_1).1 k) ?_
    show OwnEnds p.tables e below _ (s₁.setTop (mkF m 5 #[.val (.int p0), .val (.int p1)] []))
    refine own_via (fun t k => XS.iloadN X0.here hx rfl (hb hby d3_5) rfl k) ?_
    show OwnEnds p.tables e below _ (s₁.setTop (mkF m 6 #[.val (.int p0), .val (.int p1)] [(.int p0)]))
    refine own_via (fun t k => XS.goto X0.here hx rfl (pc0 := 6) (pc' := 10) rfl (hb hby d3_6) (by decide) (by decide) k) ?_
    show OwnEnds p.tables e below _ (s₁.setTop (mkF m 10 #[.val (.int p0), .val (.int p1)] [(.int p0)]))
    refine own_retI X0 hx Bd.returns hlk (hb hby d3_10) ?_ (by decide) (by decide)
    rw [e0]
    exact ⟨congrArg (fun z => some (Value.int z)) (show p0 = own_maxI p0 p1 by simp only [own_maxI, if_neg hc2_1]), N0, rfl⟩
theorem d4_0 : decode method_4_code 0 = .ok (.iload_n 0, 1) := by decide +kernel
theorem d4_1 : decode method_4_code 1 = .ok (.bipush 100, 2) := by decide +kernel
theorem d4_3 : decode method_4_code 3 = .ok (.if_icmp .gt 5, 3) := by decide +kernel
theorem d4_6 : decode method_4_code 6 = .ok (.iconst 1, 1) := by decide +kernel
theorem d4_7 : decode method_4_code 7 = .ok (.ireturn, 1) := by decide +kernel
theorem d4_8 : decode method_4_code 8 = .ok (.iload_n 0, 1) := by decide +kernel
theorem d4_9 : decode method_4_code 9 = .ok (.sipush 200, 3) := by decide +kernel
theorem d4_12 : decode method_4_code 12 = .ok (.if_icmp .gt 5, 3) := by decide +kernel
theorem d4_15 : decode method_4_code 15 = .ok (.iconst 2, 1) := by decide +kernel
theorem d4_16 : decode method_4_code 16 = .ok (.ireturn, 1) := by decide +kernel
theorem d4_17 : decode method_4_code 17 = .ok (.iload_n 0, 1) := by decide +kernel
theorem d4_18 : decode method_4_code 18 = .ok (.sipush 300, 3) := by decide +kernel
theorem d4_21 : decode method_4_code 21 = .ok (.if_icmp .gt 5, 3) := by decide +kernel
theorem d4_24 : decode method_4_code 24 = .ok (.iconst 3, 1) := by decide +kernel
theorem d4_25 : decode method_4_code 25 = .ok (.ireturn, 1) := by decide +kernel
theorem d4_26 : decode method_4_code 26 = .ok (.iload_n 0, 1) := by decide +kernel
theorem d4_27 : decode method_4_code 27 = .ok (.sipush 400, 3) := by decide +kernel
theorem d4_30 : decode method_4_code 30 = .ok (.if_icmp .gt 5, 3) := by decide +kernel
theorem d4_33 : decode method_4_code 33 = .ok (.iconst 4, 1) := by decide +kernel
theorem d4_34 : decode method_4_code 34 = .ok (.ireturn, 1) := by decide +kernel
theorem d4_35 : decode method_4_code 35 = .ok (.iload_n 0, 1) := by decide +kernel
theorem d4_36 : decode method_4_code 36 = .ok (.sipush 500, 3) := by decide +kernel
theorem d4_39 : decode method_4_code 39 = .ok (.if_icmp .gt 5, 3) := by decide +kernel
theorem d4_42 : decode method_4_code 42 = .ok (.iconst 5, 1) := by decide +kernel
theorem d4_43 : decode method_4_code 43 = .ok (.ireturn, 1) := by decide +kernel
theorem d4_44 : decode method_4_code 44 = .ok (.iload_n 0, 1) := by decide +kernel
theorem d4_45 : decode method_4_code 45 = .ok (.sipush 600, 3) := by decide +kernel
theorem d4_48 : decode method_4_code 48 = .ok (.if_icmp .gt 6, 3) := by decide +kernel
theorem d4_51 : decode method_4_code 51 = .ok (.bipush 6, 2) := by decide +kernel
theorem d4_53 : decode method_4_code 53 = .ok (.ireturn, 1) := by decide +kernel
theorem d4_54 : decode method_4_code 54 = .ok (.iload_n 0, 1) := by decide +kernel
theorem d4_55 : decode method_4_code 55 = .ok (.sipush 700, 3) := by decide +kernel
theorem d4_58 : decode method_4_code 58 = .ok (.if_icmp .gt 6, 3) := by decide +kernel
theorem d4_61 : decode method_4_code 61 = .ok (.bipush 7, 2) := by decide +kernel
theorem d4_63 : decode method_4_code 63 = .ok (.ireturn, 1) := by decide +kernel
theorem d4_64 : decode method_4_code 64 = .ok (.bipush 8, 2) := by decide +kernel
theorem d4_66 : decode method_4_code 66 = .ok (.ireturn, 1) := by decide +kernel
theorem ef_4 (m : MethodId) (p0 : Int32) : entryFrame m #[(.int p0)] 1 = mkF m 0 #[.val (.int p0)] [] := by first | (simp [entryFrame, mkF, argsToLocals, Value.category]; done) | rfl
def Q4 (Z : State) (p0 : Int32) (h0 : Heap) (n0 : Nat) (v : Option Value) (h : Heap) (L : List Loc) : Prop := v = some (.int (own_lr p0)) ∧ Fr n0 L ∧ h = h0
set_option maxRecDepth 65536 in
set_option maxHeartbeats 40000000 in
theorem rm4 (l : Launch) (Z : State) (aw : Array Value) (hw : ∀ d ∈ tables_1, d.before aw Z = true) (ws : List Jvm.Cond) (p0 : Int32) (h0 : Heap) (n0 : Nat) (Z0 : n0 ≤ h0.size) :
    MetFree l (⟨"com/example/parley/parley/bench/ReportNearestRankPinLaw", "leastRank", "(I)I"⟩ : MethodName) (head1 (Jvm.Cond.code (⟨"com/example/parley/parley/bench/ReportNearestRankPinLaw", "leastRank", "(I)I"⟩ : MethodName) method_4_code 1 (some .int) :: ws) ({ frames := 0, cells := 0, slots := 0, locals := 0 } : Room)) (fun a U => a = #[(.int p0)] ∧ Z.Warmed39 U.vm ∧ U.heap = h0) (fun _ _ _ _ _ => True) (fun _ U o U' => ∃ v L, o = .returned v ∧ Q4 Z p0 h0 n0 v U'.heap L ∧ FrameEnd U o U' L ({ frames := 0, cells := 0, slots := 0, locals := 0 } : Room).cells ({ frames := 0, cells := 0, slots := 0, locals := 0 } : Room).slots) := by
  refine MetFree.of_bodySF (plainFor_of_name pn_0) hisR ?_
  intro p e s m args below meth c s₁ Bd hml0 hP hK
  obtain ⟨rfl, hZ, hh⟩ := hP
  have hx := Bd.exec
  have hby := Bd.bytes
  have hml : c.maxLocals = 1 := hml0
  have hown : s.vm.findClass "com/example/parley/parley/bench/ReportNearestRankPinLaw" = some m.cls := findClass_of_methodNamed Bd.named
  have hnm := (name_of_methodNamed Bd.named Bd.method).1
  have hlk : meth.locks = false := Bd.notSynchronized
  have X0 : Stand p l e ({ frames := 0, cells := 0, slots := 0, locals := 0 } : Room) s m #[(.int p0)] below meth c s₁ [] 0 0 := Stand.of_body Bd
  have e0 : s₁.heap = h0 := by rw [← hh, Bd.state]; rfl
  have N0 := Fr.nil n0
  show OwnEnds p.tables e below (OwnQ s ({ frames := 0, cells := 0, slots := 0, locals := 0 } : Room).cells ({ frames := 0, cells := 0, slots := 0, locals := 0 } : Room).slots (Q4 Z p0 h0 n0)) (s₁.setTop (entryFrame m #[(.int p0)] 1))
  refine own_via (fun t k => castTop (ef_4 m p0) k) ?_
  show OwnEnds p.tables e below _ (s₁.setTop (mkF m 0 #[.val (.int p0)] []))
  refine own_via (fun t k => XS.iloadN X0.here hx rfl (hb hby d4_0) rfl k) ?_
  show OwnEnds p.tables e below _ (s₁.setTop (mkF m 1 #[.val (.int p0)] [(.int p0)]))
  refine own_via (fun t k => XS.bipush X0.here hx rfl (hb hby d4_1) k) ?_
  show OwnEnds p.tables e below _ (s₁.setTop (mkF m 3 #[.val (.int p0)] [(.int (100 : Int32)), (.int p0)]))
  by_cases hc3_1 : (100 : Int32) < p0
  · skip
    refine own_via (fun t k => XS.icmpYes X0.here hx rfl (pc0 := 3) (pc' := 8) rfl (hb hby d4_3) rfl (tlt hc3_1).2.2.1 (by decide) (by decide) k) ?_
    show OwnEnds p.tables e below _ (s₁.setTop (mkF m 8 #[.val (.int p0)] []))
    refine own_via (fun t k => XS.iloadN X0.here hx rfl (hb hby d4_8) rfl k) ?_
    show OwnEnds p.tables e below _ (s₁.setTop (mkF m 9 #[.val (.int p0)] [(.int p0)]))
    refine own_via (fun t k => XS.sipush X0.here hx rfl (hb hby d4_9) k) ?_
    show OwnEnds p.tables e below _ (s₁.setTop (mkF m 12 #[.val (.int p0)] [(.int (200 : Int32)), (.int p0)]))
    by_cases hc12_2 : (200 : Int32) < p0
    · skip
      refine own_via (fun t k => XS.icmpYes X0.here hx rfl (pc0 := 12) (pc' := 17) rfl (hb hby d4_12) rfl (tlt hc12_2).2.2.1 (by decide) (by decide) k) ?_
      show OwnEnds p.tables e below _ (s₁.setTop (mkF m 17 #[.val (.int p0)] []))
      refine own_via (fun t k => XS.iloadN X0.here hx rfl (hb hby d4_17) rfl k) ?_
      show OwnEnds p.tables e below _ (s₁.setTop (mkF m 18 #[.val (.int p0)] [(.int p0)]))
      refine own_via (fun t k => XS.sipush X0.here hx rfl (hb hby d4_18) k) ?_
      show OwnEnds p.tables e below _ (s₁.setTop (mkF m 21 #[.val (.int p0)] [(.int (300 : Int32)), (.int p0)]))
      by_cases hc21_3 : (300 : Int32) < p0
      · skip
        refine own_via (fun t k => XS.icmpYes X0.here hx rfl (pc0 := 21) (pc' := 26) rfl (hb hby d4_21) rfl (tlt hc21_3).2.2.1 (by decide) (by decide) k) ?_
        show OwnEnds p.tables e below _ (s₁.setTop (mkF m 26 #[.val (.int p0)] []))
        refine own_via (fun t k => XS.iloadN X0.here hx rfl (hb hby d4_26) rfl k) ?_
        show OwnEnds p.tables e below _ (s₁.setTop (mkF m 27 #[.val (.int p0)] [(.int p0)]))
        refine own_via (fun t k => XS.sipush X0.here hx rfl (hb hby d4_27) k) ?_
        show OwnEnds p.tables e below _ (s₁.setTop (mkF m 30 #[.val (.int p0)] [(.int (400 : Int32)), (.int p0)]))
        by_cases hc30_4 : (400 : Int32) < p0
        · skip
          refine own_via (fun t k => XS.icmpYes X0.here hx rfl (pc0 := 30) (pc' := 35) rfl (hb hby d4_30) rfl (tlt hc30_4).2.2.1 (by decide) (by decide) k) ?_
          show OwnEnds p.tables e below _ (s₁.setTop (mkF m 35 #[.val (.int p0)] []))
          refine own_via (fun t k => XS.iloadN X0.here hx rfl (hb hby d4_35) rfl k) ?_
          show OwnEnds p.tables e below _ (s₁.setTop (mkF m 36 #[.val (.int p0)] [(.int p0)]))
          refine own_via (fun t k => XS.sipush X0.here hx rfl (hb hby d4_36) k) ?_
          show OwnEnds p.tables e below _ (s₁.setTop (mkF m 39 #[.val (.int p0)] [(.int (500 : Int32)), (.int p0)]))
          by_cases hc39_5 : (500 : Int32) < p0
          · skip
            refine own_via (fun t k => XS.icmpYes X0.here hx rfl (pc0 := 39) (pc' := 44) rfl (hb hby d4_39) rfl (tlt hc39_5).2.2.1 (by decide) (by decide) k) ?_
            show OwnEnds p.tables e below _ (s₁.setTop (mkF m 44 #[.val (.int p0)] []))
            refine own_via (fun t k => XS.iloadN X0.here hx rfl (hb hby d4_44) rfl k) ?_
            show OwnEnds p.tables e below _ (s₁.setTop (mkF m 45 #[.val (.int p0)] [(.int p0)]))
            refine own_via (fun t k => XS.sipush X0.here hx rfl (hb hby d4_45) k) ?_
            show OwnEnds p.tables e below _ (s₁.setTop (mkF m 48 #[.val (.int p0)] [(.int (600 : Int32)), (.int p0)]))
            by_cases hc48_6 : (600 : Int32) < p0
            · skip
              refine own_via (fun t k => XS.icmpYes X0.here hx rfl (pc0 := 48) (pc' := 54) rfl (hb hby d4_48) rfl (tlt hc48_6).2.2.1 (by decide) (by decide) k) ?_
              show OwnEnds p.tables e below _ (s₁.setTop (mkF m 54 #[.val (.int p0)] []))
              refine own_via (fun t k => XS.iloadN X0.here hx rfl (hb hby d4_54) rfl k) ?_
              show OwnEnds p.tables e below _ (s₁.setTop (mkF m 55 #[.val (.int p0)] [(.int p0)]))
              refine own_via (fun t k => XS.sipush X0.here hx rfl (hb hby d4_55) k) ?_
              show OwnEnds p.tables e below _ (s₁.setTop (mkF m 58 #[.val (.int p0)] [(.int (700 : Int32)), (.int p0)]))
              by_cases hc58_7 : (700 : Int32) < p0
              · skip
                refine own_via (fun t k => XS.icmpYes X0.here hx rfl (pc0 := 58) (pc' := 64) rfl (hb hby d4_58) rfl (tlt hc58_7).2.2.1 (by decide) (by decide) k) ?_
                show OwnEnds p.tables e below _ (s₁.setTop (mkF m 64 #[.val (.int p0)] []))
                refine own_via (fun t k => XS.bipush X0.here hx rfl (hb hby d4_64) k) ?_
                show OwnEnds p.tables e below _ (s₁.setTop (mkF m 66 #[.val (.int p0)] [(.int (8 : Int32))]))
                refine own_retI X0 hx Bd.returns hlk (hb hby d4_66) ?_ (by decide) (by decide)
                rw [e0]
                exact ⟨congrArg (fun z => some (Value.int z)) (show (8 : Int32) = own_lr p0 by simp only [own_lr, if_pos hc3_1, if_pos hc12_2, if_pos hc21_3, if_pos hc30_4, if_pos hc39_5, if_pos hc48_6, if_pos hc58_7]), N0, rfl⟩
              · skip
                refine own_via (fun t k => XS.icmpNo X0.here hx rfl (hb hby d4_58) rfl (flt hc58_7).2.2.1 k) ?_
                show OwnEnds p.tables e below _ (s₁.setTop (mkF m 61 #[.val (.int p0)] []))
                refine own_via (fun t k => XS.bipush X0.here hx rfl (hb hby d4_61) k) ?_
                show OwnEnds p.tables e below _ (s₁.setTop (mkF m 63 #[.val (.int p0)] [(.int (7 : Int32))]))
                refine own_retI X0 hx Bd.returns hlk (hb hby d4_63) ?_ (by decide) (by decide)
                rw [e0]
                exact ⟨congrArg (fun z => some (Value.int z)) (show (7 : Int32) = own_lr p0 by simp only [own_lr, if_pos hc3_1, if_pos hc12_2, if_pos hc21_3, if_pos hc30_4, if_pos hc39_5, if_pos hc48_6, if_neg hc58_7]), N0, rfl⟩
            · skip
              refine own_via (fun t k => XS.icmpNo X0.here hx rfl (hb hby d4_48) rfl (flt hc48_6).2.2.1 k) ?_
              show OwnEnds p.tables e below _ (s₁.setTop (mkF m 51 #[.val (.int p0)] []))
              refine own_via (fun t k => XS.bipush X0.here hx rfl (hb hby d4_51) k) ?_
              show OwnEnds p.tables e below _ (s₁.setTop (mkF m 53 #[.val (.int p0)] [(.int (6 : Int32))]))
              refine own_retI X0 hx Bd.returns hlk (hb hby d4_53) ?_ (by decide) (by decide)
              rw [e0]
              exact ⟨congrArg (fun z => some (Value.int z)) (show (6 : Int32) = own_lr p0 by simp only [own_lr, if_pos hc3_1, if_pos hc12_2, if_pos hc21_3, if_pos hc30_4, if_pos hc39_5, if_neg hc48_6]), N0, rfl⟩
          · skip
            refine own_via (fun t k => XS.icmpNo X0.here hx rfl (hb hby d4_39) rfl (flt hc39_5).2.2.1 k) ?_
            show OwnEnds p.tables e below _ (s₁.setTop (mkF m 42 #[.val (.int p0)] []))
            refine own_via (fun t k => XS.iconst X0.here hx rfl (hb hby d4_42) k) ?_
            show OwnEnds p.tables e below _ (s₁.setTop (mkF m 43 #[.val (.int p0)] [(.int (5 : Int32))]))
            refine own_retI X0 hx Bd.returns hlk (hb hby d4_43) ?_ (by decide) (by decide)
            rw [e0]
            exact ⟨congrArg (fun z => some (Value.int z)) (show (5 : Int32) = own_lr p0 by simp only [own_lr, if_pos hc3_1, if_pos hc12_2, if_pos hc21_3, if_pos hc30_4, if_neg hc39_5]), N0, rfl⟩
        · skip
          refine own_via (fun t k => XS.icmpNo X0.here hx rfl (hb hby d4_30) rfl (flt hc30_4).2.2.1 k) ?_
          show OwnEnds p.tables e below _ (s₁.setTop (mkF m 33 #[.val (.int p0)] []))
          refine own_via (fun t k => XS.iconst X0.here hx rfl (hb hby d4_33) k) ?_
          show OwnEnds p.tables e below _ (s₁.setTop (mkF m 34 #[.val (.int p0)] [(.int (4 : Int32))]))
          refine own_retI X0 hx Bd.returns hlk (hb hby d4_34) ?_ (by decide) (by decide)
          rw [e0]
          exact ⟨congrArg (fun z => some (Value.int z)) (show (4 : Int32) = own_lr p0 by simp only [own_lr, if_pos hc3_1, if_pos hc12_2, if_pos hc21_3, if_neg hc30_4]), N0, rfl⟩
      · skip
        refine own_via (fun t k => XS.icmpNo X0.here hx rfl (hb hby d4_21) rfl (flt hc21_3).2.2.1 k) ?_
        show OwnEnds p.tables e below _ (s₁.setTop (mkF m 24 #[.val (.int p0)] []))
        refine own_via (fun t k => XS.iconst X0.here hx rfl (hb hby d4_24) k) ?_
        show OwnEnds p.tables e below _ (s₁.setTop (mkF m 25 #[.val (.int p0)] [(.int (3 : Int32))]))
        refine own_retI X0 hx Bd.returns hlk (hb hby d4_25) ?_ (by decide) (by decide)
        rw [e0]
        exact ⟨congrArg (fun z => some (Value.int z)) (show (3 : Int32) = own_lr p0 by simp only [own_lr, if_pos hc3_1, if_pos hc12_2, if_neg hc21_3]), N0, rfl⟩
    · skip
      refine own_via (fun t k => XS.icmpNo X0.here hx rfl (hb hby d4_12) rfl (flt hc12_2).2.2.1 k) ?_
      show OwnEnds p.tables e below _ (s₁.setTop (mkF m 15 #[.val (.int p0)] []))
      refine own_via (fun t k => XS.iconst X0.here hx rfl (hb hby d4_15) k) ?_
      show OwnEnds p.tables e below _ (s₁.setTop (mkF m 16 #[.val (.int p0)] [(.int (2 : Int32))]))
      refine own_retI X0 hx Bd.returns hlk (hb hby d4_16) ?_ (by decide) (by decide)
      rw [e0]
      exact ⟨congrArg (fun z => some (Value.int z)) (show (2 : Int32) = own_lr p0 by simp only [own_lr, if_pos hc3_1, if_neg hc12_2]), N0, rfl⟩
  · skip
    refine own_via (fun t k => XS.icmpNo X0.here hx rfl (hb hby d4_3) rfl (flt hc3_1).2.2.1 k) ?_
    show OwnEnds p.tables e below _ (s₁.setTop (mkF m 6 #[.val (.int p0)] []))
    refine own_via (fun t k => XS.iconst X0.here hx rfl (hb hby d4_6) k) ?_
    show OwnEnds p.tables e below _ (s₁.setTop (mkF m 7 #[.val (.int p0)] [(.int (1 : Int32))]))
    refine own_retI X0 hx Bd.returns hlk (hb hby d4_7) ?_ (by decide) (by decide)
    rw [e0]
    exact ⟨congrArg (fun z => some (Value.int z)) (show (1 : Int32) = own_lr p0 by simp only [own_lr, if_neg hc3_1]), N0, rfl⟩
theorem d2_0 : decode prog_9_method_3_code 0 = .ok (.iload_n 1, 1) := by decide +kernel
theorem d2_1 : decode prog_9_method_3_code 1 = .ok (.i2l, 1) := by decide +kernel
theorem d2_2 : decode prog_9_method_3_code 2 = .ok (.aload_n 0, 1) := by decide +kernel
theorem d2_3 : decode prog_9_method_3_code 3 = .ok (.arraylength, 1) := by decide +kernel
theorem d2_4 : decode prog_9_method_3_code 4 = .ok (.i2l, 1) := by decide +kernel
theorem d2_5 : decode prog_9_method_3_code 5 = .ok (.lmul, 1) := by decide +kernel
theorem d2_6 : decode prog_9_method_3_code 6 = .ok (.ldc2_w 90, 3) := by decide +kernel
theorem d2_9 : decode prog_9_method_3_code 9 = .ok (.ladd, 1) := by decide +kernel
theorem d2_10 : decode prog_9_method_3_code 10 = .ok (.ldc2_w 92, 3) := by decide +kernel
theorem d2_13 : decode prog_9_method_3_code 13 = .ok (.ldiv, 1) := by decide +kernel
theorem d2_14 : decode prog_9_method_3_code 14 = .ok (.l2i, 1) := by decide +kernel
theorem d2_15 : decode prog_9_method_3_code 15 = .ok (.istore_n 2, 1) := by decide +kernel
theorem d2_16 : decode prog_9_method_3_code 16 = .ok (.aload_n 0, 1) := by decide +kernel
theorem d2_17 : decode prog_9_method_3_code 17 = .ok (.iload_n 2, 1) := by decide +kernel
theorem d2_18 : decode prog_9_method_3_code 18 = .ok (.iconst 1, 1) := by decide +kernel
theorem d2_19 : decode prog_9_method_3_code 19 = .ok (.invokestatic 94, 3) := by decide +kernel
theorem d2_22 : decode prog_9_method_3_code 22 = .ok (.iconst 1, 1) := by decide +kernel
theorem d2_23 : decode prog_9_method_3_code 23 = .ok (.isub, 1) := by decide +kernel
theorem d2_24 : decode prog_9_method_3_code 24 = .ok (.laload, 1) := by decide +kernel
theorem d2_25 : decode prog_9_method_3_code 25 = .ok (.lreturn, 1) := by decide +kernel
theorem pn_1 : plainName "com/example/parley/parley/bench/Report" = true := by first | (simp [plainName, overriddenIn]; done) | decide +kernel
theorem ef_2 (m : MethodId) (a0 : Addr) (p1 : Int32) : entryFrame m #[(.ref a0), (.int p1)] 3 = mkF m 0 #[.val (.ref a0), .val (.int p1), .unset] [] := by first | (simp [entryFrame, mkF, argsToLocals, Value.category]; done) | rfl
def Q2 (Z : State) (a0 : Addr) (p1 : Int32) (bb : Int64) (k : Nat) (nn : Int32) (ri : Nat) (h0 : Heap) (n0 : Nat) (v : Option Value) (h : Heap) (L : List Loc) : Prop := v = some (.long (bb + Int64.ofNat ri)) ∧ Fr n0 L ∧ h = h0
theorem pd_0 : parseMethodDescriptor "(II)I" = some ⟨[.int, .int], some .int⟩ := by decide +kernel
set_option maxRecDepth 65536 in
set_option maxHeartbeats 40000000 in
theorem rm2 (l : Launch) (Z : State) (aw : Array Value) (hw : ∀ d ∈ tables_1, d.before aw Z = true) (ws : List Jvm.Cond) (a0 : Addr) (p1 : Int32) (bb : Int64) (k : Nat) (nn : Int32) (ri : Nat) (h0 : Heap) (n0 : Nat) (Z0 : n0 ≤ h0.size) (A_a0 : AL Z h0 a0 .long (own_l bb 0 k)) (hk : nn.toInt = k) (hri : ri < k) (hix : (own_maxI (((p1.toInt64 * nn.toInt64 + 99) / 100).toInt32) 1 - 1).toInt = ri) :
    MetFree l (⟨"com/example/parley/parley/bench/Report", "nearestRank", "([JI)J"⟩ : MethodName) (head1 (Jvm.Cond.code (⟨"com/example/parley/parley/bench/Report", "nearestRank", "([JI)J"⟩ : MethodName) prog_9_method_3_code 3 (some .long) :: ws) ({ frames := 1, cells := 0, slots := 0, locals := 14 } : Room)) (fun a U => a = #[(.ref a0), (.int p1)] ∧ Z.Warmed39 U.vm ∧ U.heap = h0) (fun _ _ _ _ _ => True) (fun _ U o U' => ∃ v L, o = .returned v ∧ Q2 Z a0 p1 bb k nn ri h0 n0 v U'.heap L ∧ FrameEnd U o U' L ({ frames := 1, cells := 0, slots := 0, locals := 14 } : Room).cells ({ frames := 1, cells := 0, slots := 0, locals := 14 } : Room).slots) := by
  refine MetFree.of_bodySF (plainFor_of_name pn_1) hisR ?_
  intro p e s m args below meth c s₁ Bd hml0 hP hK
  obtain ⟨rfl, hZ, hh⟩ := hP
  have hx := Bd.exec
  have hby := Bd.bytes
  have hml : c.maxLocals = 3 := hml0
  have hown : s.vm.findClass "com/example/parley/parley/bench/Report" = some m.cls := findClass_of_methodNamed Bd.named
  have hnm := (name_of_methodNamed Bd.named Bd.method).1
  have hlk : meth.locks = false := Bd.notSynchronized
  have X0 : Stand p l e ({ frames := 1, cells := 0, slots := 0, locals := 14 } : Room) s m #[(.ref a0), (.int p1)] below meth c s₁ [] 0 0 := Stand.of_body Bd
  have e0 : s₁.heap = h0 := by rw [← hh, Bd.state]; rfl
  have N0 := Fr.nil n0
  show OwnEnds p.tables e below (OwnQ s ({ frames := 1, cells := 0, slots := 0, locals := 14 } : Room).cells ({ frames := 1, cells := 0, slots := 0, locals := 14 } : Room).slots (Q2 Z a0 p1 bb k nn ri h0 n0)) (s₁.setTop (entryFrame m #[(.ref a0), (.int p1)] 3))
  refine own_via (fun t k => castTop (ef_2 m a0 p1) k) ?_
  show OwnEnds p.tables e below _ (s₁.setTop (mkF m 0 #[.val (.ref a0), .val (.int p1), .unset] []))
  refine own_via (fun t k => XS.iloadN X0.here hx rfl (hb hby d2_0) rfl k) ?_
  show OwnEnds p.tables e below _ (s₁.setTop (mkF m 1 #[.val (.ref a0), .val (.int p1), .unset] [(.int p1)]))
  refine own_via (fun t k => XS.i2l X0.here hx rfl (hb hby d2_1) rfl k) ?_
  show OwnEnds p.tables e below _ (s₁.setTop (mkF m 2 #[.val (.ref a0), .val (.int p1), .unset] [(.long (p1.toInt64))]))
  refine own_via (fun t k => XS.aloadN X0.here hx rfl (hb hby d2_2) rfl rfl k) ?_
  show OwnEnds p.tables e below _ (s₁.setTop (mkF m 3 #[.val (.ref a0), .val (.int p1), .unset] [(.ref a0), (.long (p1.toInt64))]))
  refine own_via (own_len X0 hx hZ e0 A_a0 (z := nn) (by rw [own_ll]; exact hk) (g := (mkF m 3 #[.val (.ref a0), .val (.int p1), .unset] [(.ref a0), (.long (p1.toInt64))])) rfl rfl (hb hby d2_3)) ?_
  show OwnEnds p.tables e below _ (s₁.setTop (mkF m 4 #[.val (.ref a0), .val (.int p1), .unset] [(.int nn), (.long (p1.toInt64))]))
  refine own_via (fun t k => XS.i2l X0.here hx rfl (hb hby d2_4) rfl k) ?_
  show OwnEnds p.tables e below _ (s₁.setTop (mkF m 5 #[.val (.ref a0), .val (.int p1), .unset] [(.long (nn.toInt64)), (.long (p1.toInt64))]))
  refine own_via (fun t k => XS.lmul X0.here hx rfl (hb hby d2_5) rfl k) ?_
  show OwnEnds p.tables e below _ (s₁.setTop (mkF m 6 #[.val (.ref a0), .val (.int p1), .unset] [(.long ((p1.toInt64) * (nn.toInt64)))]))
  refine own_via (X0.ldc2Long hx hown (mvT hZ (hw _ (List.mem_of_getElem? (i := 10) rfl))) (g := (mkF m 6 #[.val (.ref a0), .val (.int p1), .unset] [(.long ((p1.toInt64) * (nn.toInt64)))])) rfl (hb hby d2_6)) ?_
  show OwnEnds p.tables e below _ (s₁.setTop (mkF m 9 #[.val (.ref a0), .val (.int p1), .unset] [(.long (99 : Int64)), (.long ((p1.toInt64) * (nn.toInt64)))]))
  refine own_via (fun t k => XS.ladd X0.here hx rfl (hb hby d2_9) rfl k) ?_
  show OwnEnds p.tables e below _ (s₁.setTop (mkF m 10 #[.val (.ref a0), .val (.int p1), .unset] [(.long (((p1.toInt64) * (nn.toInt64)) + (99 : Int64)))]))
  refine own_via (X0.ldc2Long hx hown (mvT hZ (hw _ (List.mem_of_getElem? (i := 11) rfl))) (g := (mkF m 10 #[.val (.ref a0), .val (.int p1), .unset] [(.long (((p1.toInt64) * (nn.toInt64)) + (99 : Int64)))])) rfl (hb hby d2_10)) ?_
  show OwnEnds p.tables e below _ (s₁.setTop (mkF m 13 #[.val (.ref a0), .val (.int p1), .unset] [(.long (100 : Int64)), (.long (((p1.toInt64) * (nn.toInt64)) + (99 : Int64)))]))
  refine own_via (fun t k => XS.ldiv X0.here hx rfl (hb hby d2_13) rfl (by decide) k) ?_
  show OwnEnds p.tables e below _ (s₁.setTop (mkF m 14 #[.val (.ref a0), .val (.int p1), .unset] [(.long ((((p1.toInt64) * (nn.toInt64)) + (99 : Int64)) / (100 : Int64)))]))
  refine own_via (fun t k => XS.l2i X0.here hx rfl (hb hby d2_14) rfl k) ?_
  show OwnEnds p.tables e below _ (s₁.setTop (mkF m 15 #[.val (.ref a0), .val (.int p1), .unset] [(.int (((((p1.toInt64) * (nn.toInt64)) + (99 : Int64)) / (100 : Int64)).toInt32))]))
  refine own_via (fun t k => XS.istoreN X0.here hx rfl (hb hby d2_15) rfl (l' := #[.val (.ref a0), .val (.int p1), .val (.int (((((p1.toInt64) * (nn.toInt64)) + (99 : Int64)) / (100 : Int64)).toInt32))]) rfl k) ?_
  show OwnEnds p.tables e below _ (s₁.setTop (mkF m 16 #[.val (.ref a0), .val (.int p1), .val (.int (((((p1.toInt64) * (nn.toInt64)) + (99 : Int64)) / (100 : Int64)).toInt32))] []))
  refine own_via (fun t k => XS.aloadN X0.here hx rfl (hb hby d2_16) rfl rfl k) ?_
  show OwnEnds p.tables e below _ (s₁.setTop (mkF m 17 #[.val (.ref a0), .val (.int p1), .val (.int (((((p1.toInt64) * (nn.toInt64)) + (99 : Int64)) / (100 : Int64)).toInt32))] [(.ref a0)]))
  refine own_via (fun t k => XS.iloadN X0.here hx rfl (hb hby d2_17) rfl k) ?_
  show OwnEnds p.tables e below _ (s₁.setTop (mkF m 18 #[.val (.ref a0), .val (.int p1), .val (.int (((((p1.toInt64) * (nn.toInt64)) + (99 : Int64)) / (100 : Int64)).toInt32))] [(.int (((((p1.toInt64) * (nn.toInt64)) + (99 : Int64)) / (100 : Int64)).toInt32)), (.ref a0)]))
  refine own_via (fun t k => XS.iconst X0.here hx rfl (hb hby d2_18) k) ?_
  show OwnEnds p.tables e below _ (s₁.setTop (mkF m 19 #[.val (.ref a0), .val (.int p1), .val (.int (((((p1.toInt64) * (nn.toInt64)) + (99 : Int64)) / (100 : Int64)).toInt32))] [(.int (1 : Int32)), (.int (((((p1.toInt64) * (nn.toInt64)) + (99 : Int64)) / (100 : Int64)).toInt32)), (.ref a0)]))
  obtain ⟨_, _, ⟨T1, L1, k1, n1⟩, -, X1, ⟨Lc1, hQ1, l1, y1, z1⟩, st1⟩ := Jvm.LawKit.callS X0 hx (y := (⟨"java/lang/Math", "max", "(II)I"⟩ : MethodName)) hown (mvT hZ (hw _ (List.mem_of_getElem? (i := 12) rfl))) (mvT hZ (hw _ (List.mem_of_getElem? (i := 13) rfl))) (mvT hZ (hw _ (List.mem_of_getElem? (i := 14) rfl))) (mvT hZ (hw _ (List.mem_of_getElem? (i := 15) rfl))) (by decide) (backOf (W := 1) (rm3 l Z aw hw [] (((((p1.toInt64) * (nn.toInt64)) + (99 : Int64)) / (100 : Int64)).toInt32) (1 : Int32) h0 n0 Z0 ) hZ (hw _ (List.mem_of_getElem? (i := 15) rfl)) (hw _ (List.mem_of_getElem? (i := 14) rfl)) (by decide) (by decide)) (g := (mkF m 19 #[.val (.ref a0), .val (.int p1), .val (.int (((((p1.toInt64) * (nn.toInt64)) + (99 : Int64)) / (100 : Int64)).toInt32))] [(.int (1 : Int32)), (.int (((((p1.toInt64) * (nn.toInt64)) + (99 : Int64)) / (100 : Int64)).toInt32)), (.ref a0)])) rfl (by rw [hml]; rfl) (argsL := [(.int (((((p1.toInt64) * (nn.toInt64)) + (99 : Int64)) / (100 : Int64)).toInt32)), (.int (1 : Int32))]) (rest := [(.ref a0)]) (lenOf pd_0 rfl) rfl (by show 2 * 0 + _ ≤ _; exact Nat.le_of_eq rfl) (hb hby d2_19) (fun _ _ => ⟨rfl, e0, (by decide : 0 + 0 ≤ _), (by decide : 0 + 0 ≤ _)⟩)
  dsimp only [Pt.U, Pt.locs, Pt.cells, Pt.slots] at X1 l1 y1 z1 st1 hQ1
  subst l1 y1 z1
  obtain ⟨rfl, Nq1, e1⟩ := hQ1
  have N1 := Fr.app N0 Nq1
  replace e1 : T1.heap = h0 := e1
  refine own_via st1 ?_
  show OwnEnds p.tables e below _ (T1.setTop (mkF m 22 #[.val (.ref a0), .val (.int p1), .val (.int (((((p1.toInt64) * (nn.toInt64)) + (99 : Int64)) / (100 : Int64)).toInt32))] [(.int (own_maxI (((((p1.toInt64) * (nn.toInt64)) + (99 : Int64)) / (100 : Int64)).toInt32) (1 : Int32))), (.ref a0)]))
  refine own_via (fun t k => XS.iconst X1.here hx rfl (hb hby d2_22) k) ?_
  show OwnEnds p.tables e below _ (T1.setTop (mkF m 23 #[.val (.ref a0), .val (.int p1), .val (.int (((((p1.toInt64) * (nn.toInt64)) + (99 : Int64)) / (100 : Int64)).toInt32))] [(.int (1 : Int32)), (.int (own_maxI (((((p1.toInt64) * (nn.toInt64)) + (99 : Int64)) / (100 : Int64)).toInt32) (1 : Int32))), (.ref a0)]))
  refine own_via (fun t k => XS.isub X1.here hx rfl (hb hby d2_23) rfl k) ?_
  show OwnEnds p.tables e below _ (T1.setTop (mkF m 24 #[.val (.ref a0), .val (.int p1), .val (.int (((((p1.toInt64) * (nn.toInt64)) + (99 : Int64)) / (100 : Int64)).toInt32))] [(.int ((own_maxI (((((p1.toInt64) * (nn.toInt64)) + (99 : Int64)) / (100 : Int64)).toInt32) (1 : Int32)) - (1 : Int32))), (.ref a0)]))
  refine own_via (own_ldJ X1 hx hZ e1 A_a0 (v := (.long (bb + Int64.ofNat ri))) ri hix (by rw [own_lat _ _ _ _ hri, Nat.zero_add]) (g := (mkF m 24 #[.val (.ref a0), .val (.int p1), .val (.int (((((p1.toInt64) * (nn.toInt64)) + (99 : Int64)) / (100 : Int64)).toInt32))] [(.int ((own_maxI (((((p1.toInt64) * (nn.toInt64)) + (99 : Int64)) / (100 : Int64)).toInt32) (1 : Int32)) - (1 : Int32))), (.ref a0)])) rfl rfl (hb hby d2_24)) ?_
  show OwnEnds p.tables e below _ (T1.setTop (mkF m 25 #[.val (.ref a0), .val (.int p1), .val (.int (((((p1.toInt64) * (nn.toInt64)) + (99 : Int64)) / (100 : Int64)).toInt32))] [(.long (bb + Int64.ofNat ri))]))
  refine own_retJ X1 hx Bd.returns hlk (hb hby d2_25) ?_ (by decide) (by decide)
  rw [e1]
  exact ⟨rfl, N1, rfl⟩
theorem ef_0 (m : MethodId) (p0 : Int32) (p1 : Int32) (q2 : Int64) : entryFrame m #[(.int p0), (.int p1), (.long q2)] maxLocals = mkF m 0 #[.val (.int p0), .val (.int p1), .val (.long q2), .second, .unset, .unset, .unset, .unset, .unset, .unset, .unset, .unset] [] := by first | (simp [entryFrame, mkF, argsToLocals, Value.category, maxLocals]; done) | rfl
def Q0 (Z : State) (p0 : Int32) (p1 : Int32) (q2 : Int64) (h0 : Heap) (n0 : Nat) (v : Option Value) (h : Heap) (L : List Loc) : Prop := v = some (.int 1) ∧ Fr n0 L
theorem pd_1 : parseMethodDescriptor "(IJ)[J" = some ⟨[.int, .long], some (.array .long)⟩ := by decide +kernel
theorem pd_2 : parseMethodDescriptor "([JI)J" = some ⟨[(.array .long), .int], some .long⟩ := by decide +kernel
theorem pd_3 : parseMethodDescriptor "(I)I" = some ⟨[.int], some .int⟩ := by decide +kernel
set_option maxRecDepth 65536 in
set_option maxHeartbeats 40000000 in
theorem rm0 (l : Launch) (Z : State) (aw : Array Value) (hw : ∀ d ∈ tables_1, d.before aw Z = true) (ws : List Jvm.Cond) (p0 : Int32) (p1 : Int32) (q2 : Int64) (h0 : Heap) (n0 : Nat) (Z0 : n0 ≤ h0.size) :
    MetFree l x (head1 (Jvm.Cond.code x code maxLocals ret :: ws) room_1) (fun a U => a = #[(.int p0), (.int p1), (.long q2)] ∧ Z.Warmed39 U.vm ∧ U.heap = h0) (fun _ _ _ _ _ => True) (fun _ U o U' => ∃ v L, o = .returned v ∧ Q0 Z p0 p1 q2 h0 n0 v U'.heap L ∧ FrameEnd U o U' L 16 128) := by
  refine MetFree.of_bodySF (plainFor_of_name pn_0) hisR ?_
  intro p e s m args below meth c s₁ Bd hml0 hP hK
  obtain ⟨rfl, hZ, hh⟩ := hP
  have hx := Bd.exec
  have hby := Bd.bytes
  have hml : c.maxLocals = 12 := hml0
  have hown : s.vm.findClass "com/example/parley/parley/bench/ReportNearestRankPinLaw" = some m.cls := findClass_of_methodNamed Bd.named
  have hnm := (name_of_methodNamed Bd.named Bd.method).1
  have hlk : meth.locks = false := Bd.notSynchronized
  have X0 : Stand p l e room_1 s m #[(.int p0), (.int p1), (.long q2)] below meth c s₁ [] 0 0 := Stand.of_body Bd
  have e0 : s₁.heap = h0 := by rw [← hh, Bd.state]; rfl
  have N0 := Fr.nil n0
  show OwnEnds p.tables e below (OwnQ s 16 128 (Q0 Z p0 p1 q2 h0 n0)) (s₁.setTop (entryFrame m #[(.int p0), (.int p1), (.long q2)] maxLocals))
  refine own_via (fun t k => castTop (ef_0 m p0 p1 q2) k) ?_
  show OwnEnds p.tables e below _ (s₁.setTop (mkF m 0 #[.val (.int p0), .val (.int p1), .val (.long q2), .second, .unset, .unset, .unset, .unset, .unset, .unset, .unset, .unset] []))
  refine own_via (fun t k => XS.iconst X0.here hx rfl (hb hby at_0) k) ?_
  show OwnEnds p.tables e below _ (s₁.setTop (mkF m 1 #[.val (.int p0), .val (.int p1), .val (.long q2), .second, .unset, .unset, .unset, .unset, .unset, .unset, .unset, .unset] [(.int (1 : Int32))]))
  refine own_via (fun t k => XS.iloadN X0.here hx rfl (hb hby at_1) rfl k) ?_
  show OwnEnds p.tables e below _ (s₁.setTop (mkF m 2 #[.val (.int p0), .val (.int p1), .val (.long q2), .second, .unset, .unset, .unset, .unset, .unset, .unset, .unset, .unset] [(.int p0), (.int (1 : Int32))]))
  refine own_via (fun t k => XS.bipush X0.here hx rfl (hb hby at_2) k) ?_
  show OwnEnds p.tables e below _ (s₁.setTop (mkF m 4 #[.val (.int p0), .val (.int p1), .val (.long q2), .second, .unset, .unset, .unset, .unset, .unset, .unset, .unset, .unset] [(.int (7 : Int32)), (.int p0), (.int (1 : Int32))]))
  refine own_via (fun t k => XS.iand X0.here hx rfl (hb hby at_4) rfl k) ?_
  show OwnEnds p.tables e below _ (s₁.setTop (mkF m 5 #[.val (.int p0), .val (.int p1), .val (.long q2), .second, .unset, .unset, .unset, .unset, .unset, .unset, .unset, .unset] [(.int (p0 &&& (7 : Int32))), (.int (1 : Int32))]))
  refine own_via (fun t k => XS.iadd X0.here hx rfl (hb hby at_5) rfl k) ?_
  show OwnEnds p.tables e below _ (s₁.setTop (mkF m 6 #[.val (.int p0), .val (.int p1), .val (.long q2), .second, .unset, .unset, .unset, .unset, .unset, .unset, .unset, .unset] [(.int ((1 : Int32) + (p0 &&& (7 : Int32))))]))
  obtain ⟨nn, h_nn⟩ : ∃ z, z = ((1 : Int32) + (p0 &&& (7 : Int32))) := ⟨_, rfl⟩
  rw [← h_nn]
  refine own_via (fun t k => XS.istore X0.here hx rfl (hb hby at_6) rfl (l' := #[.val (.int p0), .val (.int p1), .val (.long q2), .second, .val (.int nn), .unset, .unset, .unset, .unset, .unset, .unset, .unset]) rfl k) ?_
  show OwnEnds p.tables e below _ (s₁.setTop (mkF m 8 #[.val (.int p0), .val (.int p1), .val (.long q2), .second, .val (.int nn), .unset, .unset, .unset, .unset, .unset, .unset, .unset] []))
  refine own_via (fun t k => XS.iloadN X0.here hx rfl (hb hby at_8) rfl k) ?_
  show OwnEnds p.tables e below _ (s₁.setTop (mkF m 9 #[.val (.int p0), .val (.int p1), .val (.long q2), .second, .val (.int nn), .unset, .unset, .unset, .unset, .unset, .unset, .unset] [(.int p1)]))
  refine own_via (X0.ldcInt hx hown (mvT hZ (hw _ (List.mem_of_getElem? (i := 0) rfl))) (g := (mkF m 9 #[.val (.int p0), .val (.int p1), .val (.long q2), .second, .val (.int nn), .unset, .unset, .unset, .unset, .unset, .unset, .unset] [(.int p1)])) rfl (hb hby at_9)) ?_
  show OwnEnds p.tables e below _ (s₁.setTop (mkF m 11 #[.val (.int p0), .val (.int p1), .val (.long q2), .second, .val (.int nn), .unset, .unset, .unset, .unset, .unset, .unset, .unset] [(.int (2147483647 : Int32)), (.int p1)]))
  refine own_via (fun t k => XS.iand X0.here hx rfl (hb hby at_11) rfl k) ?_
  show OwnEnds p.tables e below _ (s₁.setTop (mkF m 12 #[.val (.int p0), .val (.int p1), .val (.long q2), .second, .val (.int nn), .unset, .unset, .unset, .unset, .unset, .unset, .unset] [(.int (p1 &&& (2147483647 : Int32)))]))
  refine own_via (fun t k => XS.bipush X0.here hx rfl (hb hby at_12) k) ?_
  show OwnEnds p.tables e below _ (s₁.setTop (mkF m 14 #[.val (.int p0), .val (.int p1), .val (.long q2), .second, .val (.int nn), .unset, .unset, .unset, .unset, .unset, .unset, .unset] [(.int (101 : Int32)), (.int (p1 &&& (2147483647 : Int32)))]))
  refine own_via (fun t k => Jvm.RoadKit.iremM X0 hx rfl (hb hby at_14) rfl (by decide) k) ?_
  show OwnEnds p.tables e below _ (s₁.setTop (mkF m 15 #[.val (.int p0), .val (.int p1), .val (.long q2), .second, .val (.int nn), .unset, .unset, .unset, .unset, .unset, .unset, .unset] [(.int ((p1 &&& (2147483647 : Int32)) % (101 : Int32)))]))
  obtain ⟨pp, h_pp⟩ : ∃ z, z = ((p1 &&& (2147483647 : Int32)) % (101 : Int32)) := ⟨_, rfl⟩
  rw [← h_pp]
  obtain ⟨k, ri, hk, h1k, hk8, hri, hix, heq⟩ := own_main h_nn h_pp
  refine own_via (fun t k => XS.istore X0.here hx rfl (hb hby at_15) rfl (l' := #[.val (.int p0), .val (.int p1), .val (.long q2), .second, .val (.int nn), .val (.int pp), .unset, .unset, .unset, .unset, .unset, .unset]) rfl k) ?_
  show OwnEnds p.tables e below _ (s₁.setTop (mkF m 17 #[.val (.int p0), .val (.int p1), .val (.long q2), .second, .val (.int nn), .val (.int pp), .unset, .unset, .unset, .unset, .unset, .unset] []))
  refine own_via (fun t k => XS.lloadN X0.here hx rfl (hb hby at_17) rfl k) ?_
  show OwnEnds p.tables e below _ (s₁.setTop (mkF m 18 #[.val (.int p0), .val (.int p1), .val (.long q2), .second, .val (.int nn), .val (.int pp), .unset, .unset, .unset, .unset, .unset, .unset] [(.long q2)]))
  refine own_via (fun t k => XS.iconst X0.here hx rfl (hb hby at_18) k) ?_
  show OwnEnds p.tables e below _ (s₁.setTop (mkF m 19 #[.val (.int p0), .val (.int p1), .val (.long q2), .second, .val (.int nn), .val (.int pp), .unset, .unset, .unset, .unset, .unset, .unset] [(.int (4 : Int32)), (.long q2)]))
  refine own_via (fun t k => XS.lshr X0.here hx rfl (hb hby at_19) rfl k) ?_
  show OwnEnds p.tables e below _ (s₁.setTop (mkF m 20 #[.val (.int p0), .val (.int p1), .val (.long q2), .second, .val (.int nn), .val (.int pp), .unset, .unset, .unset, .unset, .unset, .unset] [(.long (q2 >>> ((4 : Int32) &&& 0x3f).toInt64))]))
  obtain ⟨bb, h_bb⟩ : ∃ z, z = (q2 >>> ((4 : Int32) &&& 0x3f).toInt64) := ⟨_, rfl⟩
  rw [← h_bb]
  refine own_via (fun t k => XS.lstore X0.here hx rfl (hb hby at_20) rfl (l' := #[.val (.int p0), .val (.int p1), .val (.long q2), .second, .val (.int nn), .val (.int pp), .val (.long bb), .second, .unset, .unset, .unset, .unset]) rfl k) ?_
  show OwnEnds p.tables e below _ (s₁.setTop (mkF m 22 #[.val (.int p0), .val (.int p1), .val (.long q2), .second, .val (.int nn), .val (.int pp), .val (.long bb), .second, .unset, .unset, .unset, .unset] []))
  refine own_via (fun t k => XS.iload X0.here hx rfl (hb hby at_22) rfl k) ?_
  show OwnEnds p.tables e below _ (s₁.setTop (mkF m 24 #[.val (.int p0), .val (.int p1), .val (.long q2), .second, .val (.int nn), .val (.int pp), .val (.long bb), .second, .unset, .unset, .unset, .unset] [(.int nn)]))
  refine own_via (fun t k => XS.lload X0.here hx rfl (hb hby at_24) rfl k) ?_
  show OwnEnds p.tables e below _ (s₁.setTop (mkF m 26 #[.val (.int p0), .val (.int p1), .val (.long q2), .second, .val (.int nn), .val (.int pp), .val (.long bb), .second, .unset, .unset, .unset, .unset] [(.long bb), (.int nn)]))
  obtain ⟨_, _, ⟨T1, L1, k1, n1⟩, -, X1, ⟨Lc1, hQ1, l1, y1, z1⟩, st1⟩ := Jvm.LawKit.callS X0 hx (y := (⟨"com/example/parley/parley/bench/ReportNearestRankPinLaw", "build", "(IJ)[J"⟩ : MethodName)) hown (mvT hZ (hw _ (List.mem_of_getElem? (i := 1) rfl))) (mvT hZ (hw _ (List.mem_of_getElem? (i := 2) rfl))) (mvT hZ (hw _ (List.mem_of_getElem? (i := 3) rfl))) (mvT hZ (hw _ (List.mem_of_getElem? (i := 4) rfl))) (by decide) (backOf (W := 0) (rm1 l Z aw hw [] nn bb k h0 n0 Z0 hk h1k hk8) hZ (hw _ (List.mem_of_getElem? (i := 4) rfl)) (hw _ (List.mem_of_getElem? (i := 3) rfl)) (by decide) (by decide)) (g := (mkF m 26 #[.val (.int p0), .val (.int p1), .val (.long q2), .second, .val (.int nn), .val (.int pp), .val (.long bb), .second, .unset, .unset, .unset, .unset] [(.long bb), (.int nn)])) rfl (by rw [hml]; rfl) (argsL := [(.int nn), (.long bb)]) (rest := []) (lenOf pd_1 rfl) rfl (by show 2 * 0 + _ ≤ _; exact Nat.le_of_eq rfl) (hb hby at_26) (fun _ _ => ⟨rfl, e0, (by decide : 0 + 1 ≤ _), (by decide : 0 + 8 ≤ _)⟩)
  dsimp only [Pt.U, Pt.locs, Pt.cells, Pt.slots] at X1 l1 y1 z1 st1 hQ1
  subst l1 y1 z1
  obtain ⟨h1, e1⟩ : ∃ z, T1.heap = z := ⟨_, rfl⟩
  rw [e1] at hQ1
  obtain ⟨ar, rfl, Nq1, K1, sz_ar', Y1_0⟩ := hQ1
  have N1 := Fr.app N0 Nq1
  have g_ar : n0 ≤ ar := Nat.le_trans Z0 sz_ar'
  have A_ar : AL Z h1 ar .long (own_l bb 0 k) := Y1_0
  have Zs_1 : n0 ≤ _ := Nat.le_trans Z0 K1.1
  refine own_via st1 ?_
  show OwnEnds p.tables e below _ (T1.setTop (mkF m 29 #[.val (.int p0), .val (.int p1), .val (.long q2), .second, .val (.int nn), .val (.int pp), .val (.long bb), .second, .unset, .unset, .unset, .unset] [(.ref ar)]))
  refine own_via (fun t k => XS.astore X1.here hx rfl (hb hby at_29) rfl rfl (l' := #[.val (.int p0), .val (.int p1), .val (.long q2), .second, .val (.int nn), .val (.int pp), .val (.long bb), .second, .val (.ref ar), .unset, .unset, .unset]) rfl k) ?_
  show OwnEnds p.tables e below _ (T1.setTop (mkF m 31 #[.val (.int p0), .val (.int p1), .val (.long q2), .second, .val (.int nn), .val (.int pp), .val (.long bb), .second, .val (.ref ar), .unset, .unset, .unset] []))
  refine own_via (fun t k => XS.aload X1.here hx rfl (hb hby at_31) rfl rfl k) ?_
  show OwnEnds p.tables e below _ (T1.setTop (mkF m 33 #[.val (.int p0), .val (.int p1), .val (.long q2), .second, .val (.int nn), .val (.int pp), .val (.long bb), .second, .val (.ref ar), .unset, .unset, .unset] [(.ref ar)]))
  refine own_via (fun t k => XS.iload X1.here hx rfl (hb hby at_33) rfl k) ?_
  show OwnEnds p.tables e below _ (T1.setTop (mkF m 35 #[.val (.int p0), .val (.int p1), .val (.long q2), .second, .val (.int nn), .val (.int pp), .val (.long bb), .second, .val (.ref ar), .unset, .unset, .unset] [(.int pp), (.ref ar)]))
  obtain ⟨_, _, ⟨T2, L2, k2, n2⟩, -, X2, ⟨Lc2, hQ2, l2, y2, z2⟩, st2⟩ := Jvm.LawKit.callS X1 hx (y := (⟨"com/example/parley/parley/bench/Report", "nearestRank", "([JI)J"⟩ : MethodName)) hown (mvT hZ (hw _ (List.mem_of_getElem? (i := 6) rfl))) (mvT hZ (hw _ (List.mem_of_getElem? (i := 7) rfl))) (mvT hZ (hw _ (List.mem_of_getElem? (i := 8) rfl))) (mvT hZ (hw _ (List.mem_of_getElem? (i := 9) rfl))) (by decide) (backOf (W := 0) (rm2 l Z aw hw [] ar pp bb k nn ri h1 n0 Zs_1 A_ar hk hri hix) hZ (hw _ (List.mem_of_getElem? (i := 9) rfl)) (hw _ (List.mem_of_getElem? (i := 8) rfl)) (by decide) (by decide)) (g := (mkF m 35 #[.val (.int p0), .val (.int p1), .val (.long q2), .second, .val (.int nn), .val (.int pp), .val (.long bb), .second, .val (.ref ar), .unset, .unset, .unset] [(.int pp), (.ref ar)])) rfl (by rw [hml]; rfl) (argsL := [(.ref ar), (.int pp)]) (rest := []) (lenOf pd_2 rfl) rfl (by show 2 * 0 + _ ≤ _; exact Nat.le_of_eq rfl) (hb hby at_35) (fun _ _ => ⟨rfl, e1, (by decide : 1 + 0 ≤ _), (by decide : 8 + 0 ≤ _)⟩)
  dsimp only [Pt.U, Pt.locs, Pt.cells, Pt.slots] at X2 l2 y2 z2 st2 hQ2
  subst l2 y2 z2
  obtain ⟨rfl, Nq2, e2⟩ := hQ2
  have N2 := Fr.app N1 Nq2
  replace e2 : T2.heap = h1 := e2
  refine own_via st2 ?_
  show OwnEnds p.tables e below _ (T2.setTop (mkF m 38 #[.val (.int p0), .val (.int p1), .val (.long q2), .second, .val (.int nn), .val (.int pp), .val (.long bb), .second, .val (.ref ar), .unset, .unset, .unset] [(.long (bb + Int64.ofNat ri))]))
  refine own_via (fun t k => XS.lstore X2.here hx rfl (hb hby at_38) rfl (l' := #[.val (.int p0), .val (.int p1), .val (.long q2), .second, .val (.int nn), .val (.int pp), .val (.long bb), .second, .val (.ref ar), .val (.long (bb + Int64.ofNat ri)), .second, .unset]) rfl k) ?_
  show OwnEnds p.tables e below _ (T2.setTop (mkF m 40 #[.val (.int p0), .val (.int p1), .val (.long q2), .second, .val (.int nn), .val (.int pp), .val (.long bb), .second, .val (.ref ar), .val (.long (bb + Int64.ofNat ri)), .second, .unset] []))
  refine own_via (fun t k => XS.iload X2.here hx rfl (hb hby at_40) rfl k) ?_
  show OwnEnds p.tables e below _ (T2.setTop (mkF m 42 #[.val (.int p0), .val (.int p1), .val (.long q2), .second, .val (.int nn), .val (.int pp), .val (.long bb), .second, .val (.ref ar), .val (.long (bb + Int64.ofNat ri)), .second, .unset] [(.int pp)]))
  refine own_via (fun t k => XS.iload X2.here hx rfl (hb hby at_42) rfl k) ?_
  show OwnEnds p.tables e below _ (T2.setTop (mkF m 44 #[.val (.int p0), .val (.int p1), .val (.long q2), .second, .val (.int nn), .val (.int pp), .val (.long bb), .second, .val (.ref ar), .val (.long (bb + Int64.ofNat ri)), .second, .unset] [(.int nn), (.int pp)]))
  refine own_via (fun t k => XS.imul X2.here hx rfl (hb hby at_44) rfl k) ?_
  show OwnEnds p.tables e below _ (T2.setTop (mkF m 45 #[.val (.int p0), .val (.int p1), .val (.long q2), .second, .val (.int nn), .val (.int pp), .val (.long bb), .second, .val (.ref ar), .val (.long (bb + Int64.ofNat ri)), .second, .unset] [(.int (pp * nn))]))
  obtain ⟨_, _, ⟨T3, L3, k3, n3⟩, -, X3, ⟨Lc3, hQ3, l3, y3, z3⟩, st3⟩ := Jvm.LawKit.callS X2 hx (y := (⟨"com/example/parley/parley/bench/ReportNearestRankPinLaw", "leastRank", "(I)I"⟩ : MethodName)) hown (mvT hZ (hw _ (List.mem_of_getElem? (i := 16) rfl))) (mvT hZ (hw _ (List.mem_of_getElem? (i := 17) rfl))) (mvT hZ (hw _ (List.mem_of_getElem? (i := 3) rfl))) (mvT hZ (hw _ (List.mem_of_getElem? (i := 18) rfl))) (by decide) (backOf (W := 0) (rm4 l Z aw hw [] (pp * nn) h1 n0 Zs_1 ) hZ (hw _ (List.mem_of_getElem? (i := 18) rfl)) (hw _ (List.mem_of_getElem? (i := 3) rfl)) (by decide) (by decide)) (g := (mkF m 45 #[.val (.int p0), .val (.int p1), .val (.long q2), .second, .val (.int nn), .val (.int pp), .val (.long bb), .second, .val (.ref ar), .val (.long (bb + Int64.ofNat ri)), .second, .unset] [(.int (pp * nn))])) rfl (by rw [hml]; rfl) (argsL := [(.int (pp * nn))]) (rest := []) (lenOf pd_3 rfl) rfl (by show 2 * 0 + _ ≤ _; exact Nat.le_of_eq rfl) (hb hby at_45) (fun _ _ => ⟨rfl, e2, (by decide : 1 + 0 ≤ _), (by decide : 8 + 0 ≤ _)⟩)
  dsimp only [Pt.U, Pt.locs, Pt.cells, Pt.slots] at X3 l3 y3 z3 st3 hQ3
  subst l3 y3 z3
  obtain ⟨rfl, Nq3, e3⟩ := hQ3
  have N3 := Fr.app N2 Nq3
  replace e3 : T3.heap = h1 := e3
  refine own_via st3 ?_
  show OwnEnds p.tables e below _ (T3.setTop (mkF m 48 #[.val (.int p0), .val (.int p1), .val (.long q2), .second, .val (.int nn), .val (.int pp), .val (.long bb), .second, .val (.ref ar), .val (.long (bb + Int64.ofNat ri)), .second, .unset] [(.int (own_lr (pp * nn)))]))
  refine own_via (fun t k => XS.istore X3.here hx rfl (hb hby at_48) rfl (l' := #[.val (.int p0), .val (.int p1), .val (.long q2), .second, .val (.int nn), .val (.int pp), .val (.long bb), .second, .val (.ref ar), .val (.long (bb + Int64.ofNat ri)), .second, .val (.int (own_lr (pp * nn)))]) rfl k) ?_
  show OwnEnds p.tables e below _ (T3.setTop (mkF m 50 #[.val (.int p0), .val (.int p1), .val (.long q2), .second, .val (.int nn), .val (.int pp), .val (.long bb), .second, .val (.ref ar), .val (.long (bb + Int64.ofNat ri)), .second, .val (.int (own_lr (pp * nn)))] []))
  refine own_via (fun t k => XS.lload X3.here hx rfl (hb hby at_50) rfl k) ?_
  show OwnEnds p.tables e below _ (T3.setTop (mkF m 52 #[.val (.int p0), .val (.int p1), .val (.long q2), .second, .val (.int nn), .val (.int pp), .val (.long bb), .second, .val (.ref ar), .val (.long (bb + Int64.ofNat ri)), .second, .val (.int (own_lr (pp * nn)))] [(.long (bb + Int64.ofNat ri))]))
  refine own_via (fun t k => XS.lload X3.here hx rfl (hb hby at_52) rfl k) ?_
  show OwnEnds p.tables e below _ (T3.setTop (mkF m 54 #[.val (.int p0), .val (.int p1), .val (.long q2), .second, .val (.int nn), .val (.int pp), .val (.long bb), .second, .val (.ref ar), .val (.long (bb + Int64.ofNat ri)), .second, .val (.int (own_lr (pp * nn)))] [(.long bb), (.long (bb + Int64.ofNat ri))]))
  refine own_via (fun t k => XS.iload X3.here hx rfl (hb hby at_54) rfl k) ?_
  show OwnEnds p.tables e below _ (T3.setTop (mkF m 56 #[.val (.int p0), .val (.int p1), .val (.long q2), .second, .val (.int nn), .val (.int pp), .val (.long bb), .second, .val (.ref ar), .val (.long (bb + Int64.ofNat ri)), .second, .val (.int (own_lr (pp * nn)))] [(.int (own_lr (pp * nn))), (.long bb), (.long (bb + Int64.ofNat ri))]))
  refine own_via (fun t k => XS.iconst X3.here hx rfl (hb hby at_56) k) ?_
  show OwnEnds p.tables e below _ (T3.setTop (mkF m 57 #[.val (.int p0), .val (.int p1), .val (.long q2), .second, .val (.int nn), .val (.int pp), .val (.long bb), .second, .val (.ref ar), .val (.long (bb + Int64.ofNat ri)), .second, .val (.int (own_lr (pp * nn)))] [(.int (1 : Int32)), (.int (own_lr (pp * nn))), (.long bb), (.long (bb + Int64.ofNat ri))]))
  refine own_via (fun t k => XS.isub X3.here hx rfl (hb hby at_57) rfl k) ?_
  show OwnEnds p.tables e below _ (T3.setTop (mkF m 58 #[.val (.int p0), .val (.int p1), .val (.long q2), .second, .val (.int nn), .val (.int pp), .val (.long bb), .second, .val (.ref ar), .val (.long (bb + Int64.ofNat ri)), .second, .val (.int (own_lr (pp * nn)))] [(.int ((own_lr (pp * nn)) - (1 : Int32))), (.long bb), (.long (bb + Int64.ofNat ri))]))
  refine own_via (fun t k => XS.i2l X3.here hx rfl (hb hby at_58) rfl k) ?_
  show OwnEnds p.tables e below _ (T3.setTop (mkF m 59 #[.val (.int p0), .val (.int p1), .val (.long q2), .second, .val (.int nn), .val (.int pp), .val (.long bb), .second, .val (.ref ar), .val (.long (bb + Int64.ofNat ri)), .second, .val (.int (own_lr (pp * nn)))] [(.long (((own_lr (pp * nn)) - (1 : Int32)).toInt64)), (.long bb), (.long (bb + Int64.ofNat ri))]))
  refine own_via (fun t k => XS.ladd X3.here hx rfl (hb hby at_59) rfl k) ?_
  show OwnEnds p.tables e below _ (T3.setTop (mkF m 60 #[.val (.int p0), .val (.int p1), .val (.long q2), .second, .val (.int nn), .val (.int pp), .val (.long bb), .second, .val (.ref ar), .val (.long (bb + Int64.ofNat ri)), .second, .val (.int (own_lr (pp * nn)))] [(.long (bb + (((own_lr (pp * nn)) - (1 : Int32)).toInt64))), (.long (bb + Int64.ofNat ri))]))
  refine own_via (fun t k => XS.lcmp X3.here hx rfl (hb hby at_60) rfl k) ?_
  show OwnEnds p.tables e below _ (T3.setTop (mkF m 61 #[.val (.int p0), .val (.int p1), .val (.long q2), .second, .val (.int nn), .val (.int pp), .val (.long bb), .second, .val (.ref ar), .val (.long (bb + Int64.ofNat ri)), .second, .val (.int (own_lr (pp * nn)))] [(.int (lcmpW (bb + Int64.ofNat ri) (bb + (((own_lr (pp * nn)) - (1 : Int32)).toInt64))))]))
  have hc61_4 : (bb + Int64.ofNat ri) = (bb + (((own_lr (pp * nn)) - (1 : Int32)).toInt64)) := by rw [heq]
  refine own_via (fun t k => XS.ifNo X3.here hx rfl (hb hby at_61) rfl (own_lc_eq_t hc61_4).2 k) ?_
  show OwnEnds p.tables e below _ (T3.setTop (mkF m 64 #[.val (.int p0), .val (.int p1), .val (.long q2), .second, .val (.int nn), .val (.int pp), .val (.long bb), .second, .val (.ref ar), .val (.long (bb + Int64.ofNat ri)), .second, .val (.int (own_lr (pp * nn)))] []))
  refine own_via (fun t k => XS.iconst X3.here hx rfl (hb hby at_64) k) ?_
  show OwnEnds p.tables e below _ (T3.setTop (mkF m 65 #[.val (.int p0), .val (.int p1), .val (.long q2), .second, .val (.int nn), .val (.int pp), .val (.long bb), .second, .val (.ref ar), .val (.long (bb + Int64.ofNat ri)), .second, .val (.int (own_lr (pp * nn)))] [(.int (1 : Int32))]))
  refine own_via (fun t k => XS.goto X3.here hx rfl (pc0 := 65) (pc' := 69) rfl (hb hby at_65) (by decide) (by decide) k) ?_
  show OwnEnds p.tables e below _ (T3.setTop (mkF m 69 #[.val (.int p0), .val (.int p1), .val (.long q2), .second, .val (.int nn), .val (.int pp), .val (.long bb), .second, .val (.ref ar), .val (.long (bb + Int64.ofNat ri)), .second, .val (.int (own_lr (pp * nn)))] [(.int (1 : Int32))]))
  refine own_retN (t := .boolean) X3 hx Bd.returns (by simp) hlk (hb hby at_69) ?_ (by decide) (by decide)
  rw [e3]
  exact ⟨rfl, N3⟩
set_option maxRecDepth 65536 in
set_option maxHeartbeats 40000000 in
theorem comes_1 {Post : Tables → Env → Array Value → State → Outcome → State → Prop} (hpost : ∀ tb e args s v u, (limb_1_1.after args s (.returned v) u = true ∧ limb_1_2.after args s (.returned v) u = true ∧ True) → FrameEnd s (.returned v) u (Jvm.fieldLocs frame_1_writes args s ++ Jvm.arrayLocs frame_1_arrays args s ++ Jvm.staticLocs frame_1_statics s) 16 128 → Post tb e args s (.returned v) u) :
    ArmFor flags0 classFile x code maxLocals ret World_1 tables_1 room_1 Calls_1 rest_1 Pre_1 Post := by
  intro l hfl _ _ p e ha hc hk s m args below hf hA hF happ hP
  obtain ⟨hcalls, hrest, hpre⟩ := hP
  obtain ⟨-, -, -, hnamed, -, -, -, hat⟩ := (Spec.applies_iff hf).mp happ
  obtain ⟨hg, hn⟩ := and_e (Cond.before_iff.mp (show (Jvm.Cond.and given_1 narrow_1).before args s = true from hpre))
  obtain ⟨hq0, hg0⟩ := and_e hg
  obtain ⟨hq1, hg1⟩ := and_e hg0
  obtain ⟨hq2, hg2⟩ := and_e hg1
  obtain ⟨w0, w1, w2, rfl⟩ : ∃ w0 w1 w2 : Value, args = #[w0, w1, w2] := by
    have hs : args.size = 3 := by simpa [Cond.value, given_1] using hq0
    obtain ⟨L⟩ := args
    match L, hs with
    | [w0, w1, w2], _ => exact ⟨w0, w1, w2, rfl⟩
  have hw := fun d (hd : d ∈ tables_1) => atoms_spec (ws := Jvm.Cond.code x code maxLocals ret :: tables_1) hat d (List.mem_cons_of_mem _ hd)
  have hfit : Fit s := fun {y c} hc i hi => by
    obtain ⟨ha, rfl⟩ := Array.getElem?_eq_some_iff.mp hc
    have q := List.all_eq_true.mp ((Array.all_eq_true_iff_forall_mem.mp hF) _ (Array.getElem_mem ha)) i (List.mem_range.mpr hi)
    simpa [Array.getElem?_eq_getElem hi] using q
  obtain ⟨i0, ei0⟩ := is_v hq1
  obtain rfl : w0 = (.int i0) := Option.some.inj ei0
  obtain ⟨i1, ei1⟩ := is_v hq2
  obtain rfl : w1 = (.int i1) := Option.some.inj ei1
  obtain ⟨i2, ei2⟩ := isL_v hg2
  obtain rfl : w2 = (.long i2) := Option.some.inj ei2
  obtain ⟨n, o, h1, h2, h3, _, L, rfl, ⟨rfl, N⟩, hq⟩ := rm0 l s _ hw tables_1 i0 i1 i2 s.heap s.heap.size (Nat.le_refl _)  p e ha hc hk s m _ below hf ((Spec.applies_iff_loose hf).mp happ).1 ⟨rfl, State.Warmed39.refl s, rfl⟩ trivial
  refine ⟨n, _, h1, h2, h3, hpost _ _ _ _ _ _ ⟨Cond.after_iff.mpr rfl, Cond.after_iff.mpr (eq_i res_at (Term.int_eval (1)) rfl), trivial⟩ ⟨hq.1, hq.2.1, (hq.2.2.sift fun y hy => Or.inr (N y hy)).mono (by decide) (by decide)⟩⟩
theorem main_1_1 : Claimed_1_1 := comes_1 fun _ _ _ _ _ _ h hF => ⟨h.1, hF⟩
theorem main_1_2 : Claimed_1_2 := comes_1 fun _ _ _ _ _ _ h hF => ⟨h.2.1, hF⟩
end Jvm.Pilot.@@N@@
namespace Jvm.Pilot.@@N@@
open Jvm Jvm.ClassFile Sem Op Lib Jvm.Free Jvm.Stand Jvm.Pilot.@@N@@.Jvm.D
/-! MADE BY PROGRAM (witnessworld.py) out of the Statement's table words and the real class files: 12 classes; the members and pool entries that the words name. The judged class is class 1, her method 1. -/
namespace start1
open Jvm.ClassFile
def u (s : String) : CpInfo := .utf8 (stringToUtf16 s)
/-- a pool by its gaps: so many unusable entries, then the entry; so many at the end -/
def gap : Nat → List CpInfo → List CpInfo
  | 0, r => r
  | n + 1, r => .unusable :: gap n r
def poolList (es : List (Nat × CpInfo)) (last : Nat) : List CpInfo := es.foldr (fun e r => gap e.1 (e.2 :: r)) (gap last [])
def pool (es : List (Nat × CpInfo)) (last : Nat) : Array CpInfo := ⟨poolList es last⟩
def fileOf (pool : Array CpInfo) (this : Nat) (attrs : Array Attribute := #[]) (ms : Array MethodInfo := #[]) (fl : Nat := 33) (sup : Nat := 0) (ifs : Array Nat := #[]) (fds : Array FieldInfo := #[]) : ClassFile where
  minorVersion := 0
  majorVersion := 65
  constantPool := pool
  accessFlags := fl
  thisClass := this
  superClass := sup
  interfaces := ifs
  fields := fds
  methods := ms
  attributes := attrs
def plain (name : String) (sup : Option ClassId) : Class where
  name := name
  kind := .ordinary
  loader := none
  accessFlags := 33
  super := sup
  interfaces := #[]
  cf := none
  fields := #[]
  methods := #[]
  instanceTypes := #[]
  staticTypes := #[]
  resolved := #[]
  callSites := []
  init := .initialized
  statics := none
  mirror := none

def pool0 : Array CpInfo := pool [(5, u "<init>"), (0, u "()V"), (1, .class_ 10), (1, u "java/lang/Object")] 113

def k0m0 : Method := { name := "<init>", desc := "()V", sig := { parameters := [], returnType := none }, accessFlags := 1, code := none }
/-- java/lang/Object -/
def k0 : Class := { plain "java/lang/Object" none with
  accessFlags := 33
  interfaces := #[]
  cf := some (fileOf pool0 8 #[] #[{ accessFlags := 1, nameIndex := 5, descriptorIndex := 6, attributes := #[] }] 33 0 #[] #[])
  fields := #[]
  methods := #[k0m0]
  instanceTypes := #[]
  staticTypes := #[]
  resolved := Array.replicate 124 none
  statics := none }

def pool1 : Array CpInfo := pool [(2, .class_ 4), (1, u "java/lang/Object"), (0, u "<init>"), (0, u "()V"), (0, .integer 2147483647), (0, .methodref 9 10), (0, .class_ 11), (0, .nameAndType 12 13), (0, u "com/example/parley/parley/bench/ReportNearestRankPinLaw"), (0, u "build"), (0, u "(IJ)[J"), (0, .methodref 15 16), (0, .class_ 17), (0, .nameAndType 18 19), (0, u "com/example/parley/parley/bench/Report"), (0, u "nearestRank"), (0, u "([JI)J"), (0, .methodref 9 21), (0, .nameAndType 22 23), (0, u "leastRank"), (0, u "(I)I"), (0, .long 2), (1, .long 3), (1, .long 4), (1, .long 5), (1, .long 6), (1, .long 7), (3, u "law"), (0, u "(IIJ)Z")] 5

def k1m0 : Method := { name := "<init>", desc := "()V", sig := { parameters := [], returnType := none }, accessFlags := 1, code := none }
def k1c1 : Code := { maxStack := 6, maxLocals := 12, code := code, exceptionTable := #[], attributes := #[] }
def k1m1 : Method := { name := "law", desc := "(IIJ)Z", sig := { parameters := [.int, .int, .long], returnType := some .boolean }, accessFlags := 9, code := some k1c1 }
def k1c2 : Code := { maxStack := 7, maxLocals := 3, code := method_3_code, exceptionTable := #[], attributes := #[] }
def k1m2 : Method := { name := "build", desc := "(IJ)[J", sig := { parameters := [.int, .long], returnType := some (.array .long) }, accessFlags := 10, code := some k1c2 }
def k1c3 : Code := { maxStack := 2, maxLocals := 1, code := method_4_code, exceptionTable := #[], attributes := #[] }
def k1m3 : Method := { name := "leastRank", desc := "(I)I", sig := { parameters := [.int], returnType := some .int }, accessFlags := 10, code := some k1c3 }
/-- com/example/parley/parley/bench/ReportNearestRankPinLaw -/
def k1 : Class := { plain "com/example/parley/parley/bench/ReportNearestRankPinLaw" (some 0) with
  accessFlags := 49
  interfaces := #[]
  cf := some (fileOf pool1 9 #[] #[{ accessFlags := 1, nameIndex := 5, descriptorIndex := 6, attributes := #[] }, { accessFlags := 9, nameIndex := 38, descriptorIndex := 39, attributes := #[] }, { accessFlags := 10, nameIndex := 12, descriptorIndex := 13, attributes := #[] }, { accessFlags := 10, nameIndex := 22, descriptorIndex := 23, attributes := #[] }] 49 2 #[] #[])
  fields := #[]
  methods := #[k1m0, k1m1, k1m2, k1m3]
  instanceTypes := #[]
  staticTypes := #[]
  resolved := Array.replicate 45 none
  statics := none }

def pool2 : Array CpInfo := pool [(2, .class_ 4), (1, u "java/lang/Object"), (3, .class_ 10), (1, u "com/example/parley/parley/bench/Report"), (4, u "first"), (0, u "[J"), (2, u "all"), (2, u "counted"), (0, u "Ljava/time/Duration;"), (32, u "nearestRank"), (0, u "([JI)J"), (16, .class_ 76), (1, u "java/lang/Math"), (13, .long 99), (1, .long 100), (1, .methodref 74 95), (0, .nameAndType 96 97), (0, u "max"), (0, u "(II)I"), (11, u "NANOS_PER_MILLI"), (0, u "D"), (1, u "NANOS_PER_SECOND")] 13

def k2c0 : Code := { maxStack := 4, maxLocals := 3, code := prog_9_method_3_code, exceptionTable := #[], attributes := #[] }
def k2m0 : Method := { name := "nearestRank", desc := "([JI)J", sig := { parameters := [(.array .long), .int], returnType := some .long }, accessFlags := 8, code := some k2c0 }
/-- com/example/parley/parley/bench/Report -/
def k2 : Class := { plain "com/example/parley/parley/bench/Report" (some 0) with
  accessFlags := 48
  interfaces := #[]
  cf := some (fileOf pool2 8 #[] #[{ accessFlags := 8, nameIndex := 56, descriptorIndex := 57, attributes := #[] }] 48 2 #[] #[{ accessFlags := 26, nameIndex := 109, descriptorIndex := 110, attributes := #[] }, { accessFlags := 26, nameIndex := 112, descriptorIndex := 110, attributes := #[] }, { accessFlags := 18, nameIndex := 15, descriptorIndex := 16, attributes := #[] }, { accessFlags := 18, nameIndex := 19, descriptorIndex := 16, attributes := #[] }, { accessFlags := 18, nameIndex := 22, descriptorIndex := 23, attributes := #[] }])
  fields := #[{ name := "NANOS_PER_MILLI", type := .double, accessFlags := 26, slot := 0, constantValue := 0 }, { name := "NANOS_PER_SECOND", type := .double, accessFlags := 26, slot := 1, constantValue := 0 }, { name := "first", type := (.array .long), accessFlags := 18, slot := 0, constantValue := 0 }, { name := "all", type := (.array .long), accessFlags := 18, slot := 1, constantValue := 0 }, { name := "counted", type := (.object "java/time/Duration"), accessFlags := 18, slot := 2, constantValue := 0 }]
  methods := #[k2m0]
  instanceTypes := #[(.array .long), (.array .long), (.object "java/time/Duration")]
  staticTypes := #[.double, .double]
  resolved := Array.replicate 126 none
  statics := none }

def pool3 : Array CpInfo := pool [(1, .class_ 2), (0, u "java/lang/Math"), (1, .class_ 6), (1, u "java/lang/Object"), (0, u "<init>"), (0, u "()V"), (89, .class_ 100), (1, u "java/lang/Math$RandomNumberGeneratorHolder"), (71, u "negativeZeroFloatBits"), (0, u "J"), (2, u "negativeZeroDoubleBits"), (21, u "max"), (46, u "$assertionsDisabled"), (0, u "Z"), (88, u "(II)I"), (2, u "twoToTheDoubleScaleDown"), (0, u "D"), (4, u "twoToTheDoubleScaleUp"), (9, u "E"), (3, u "PI"), (2, u "TAU"), (2, u "DEGREES_TO_RADIANS"), (0, u "RADIANS_TO_DEGREES")] 94

def k3m0 : Method := { name := "<init>", desc := "()V", sig := { parameters := [], returnType := none }, accessFlags := 2, code := none }
def k3c1 : Code := { maxStack := 2, maxLocals := 2, code := jdk_29_method_65_code, exceptionTable := #[], attributes := #[] }
def k3m1 : Method := { name := "max", desc := "(II)I", sig := { parameters := [.int, .int], returnType := some .int }, accessFlags := 9, code := some k3c1 }
/-- java/lang/Math -/
def k3 : Class := { plain "java/lang/Math" (some 0) with
  accessFlags := 49
  interfaces := #[]
  cf := some (fileOf pool3 1 #[.nestMembers #[98]] #[{ accessFlags := 2, nameIndex := 7, descriptorIndex := 8, attributes := #[] }, { accessFlags := 9, nameIndex := 198, descriptorIndex := 335, attributes := #[] }] 49 4 #[] #[{ accessFlags := 25, nameIndex := 354, descriptorIndex := 339, attributes := #[] }, { accessFlags := 25, nameIndex := 358, descriptorIndex := 339, attributes := #[] }, { accessFlags := 25, nameIndex := 361, descriptorIndex := 339, attributes := #[] }, { accessFlags := 26, nameIndex := 364, descriptorIndex := 339, attributes := #[] }, { accessFlags := 26, nameIndex := 365, descriptorIndex := 339, attributes := #[] }, { accessFlags := 26, nameIndex := 172, descriptorIndex := 173, attributes := #[] }, { accessFlags := 26, nameIndex := 176, descriptorIndex := 173, attributes := #[] }, { accessFlags := 8, nameIndex := 344, descriptorIndex := 339, attributes := #[] }, { accessFlags := 8, nameIndex := 338, descriptorIndex := 339, attributes := #[] }, { accessFlags := 4120, nameIndex := 245, descriptorIndex := 246, attributes := #[] }])
  fields := #[{ name := "E", type := .double, accessFlags := 25, slot := 0, constantValue := 0 }, { name := "PI", type := .double, accessFlags := 25, slot := 1, constantValue := 0 }, { name := "TAU", type := .double, accessFlags := 25, slot := 2, constantValue := 0 }, { name := "DEGREES_TO_RADIANS", type := .double, accessFlags := 26, slot := 3, constantValue := 0 }, { name := "RADIANS_TO_DEGREES", type := .double, accessFlags := 26, slot := 4, constantValue := 0 }, { name := "negativeZeroFloatBits", type := .long, accessFlags := 26, slot := 5, constantValue := 0 }, { name := "negativeZeroDoubleBits", type := .long, accessFlags := 26, slot := 6, constantValue := 0 }, { name := "twoToTheDoubleScaleUp", type := .double, accessFlags := 8, slot := 7, constantValue := 0 }, { name := "twoToTheDoubleScaleDown", type := .double, accessFlags := 8, slot := 8, constantValue := 0 }, { name := "$assertionsDisabled", type := .boolean, accessFlags := 4120, slot := 9, constantValue := 0 }]
  methods := #[k3m0, k3m1]
  instanceTypes := #[]
  staticTypes := #[.double, .double, .double, .double, .double, .long, .long, .double, .double, .boolean]
  resolved := Array.replicate 460 none
  statics := none }

def pool4 : Array CpInfo := pool [(1, u "java/lang/Cloneable"), (0, .class_ 1), (0, u "java/lang/Object"), (0, .class_ 3)] 3

/-- java/lang/Cloneable -/
def k4 : Class := { plain "java/lang/Cloneable" (some 0) with
  accessFlags := 1537
  interfaces := #[]
  cf := some (fileOf pool4 2 #[] #[] 1537 4 #[] #[])
  fields := #[]
  methods := #[]
  instanceTypes := #[]
  staticTypes := #[]
  resolved := Array.replicate 8 none
  statics := none }

def pool5 : Array CpInfo := pool [(1, u "java/io/Serializable"), (0, .class_ 1), (0, u "java/lang/Object"), (0, .class_ 3)] 3

/-- java/io/Serializable -/
def k5 : Class := { plain "java/io/Serializable" (some 0) with
  accessFlags := 1537
  interfaces := #[]
  cf := some (fileOf pool5 2 #[] #[] 1537 4 #[] #[])
  fields := #[]
  methods := #[]
  instanceTypes := #[]
  staticTypes := #[]
  resolved := Array.replicate 8 none
  statics := none }

/-- the primitive byte -/
def k6 : Class := { plain "byte" none with kind := .primitive 'B', accessFlags := 0x411 }
/-- [B -/
def k7 : Class := { plain "[B" (some 0) with kind := .array 6 .byte, interfaces := #[4, 5], accessFlags := 1041 }

/-- the primitive int -/
def k8 : Class := { plain "int" none with kind := .primitive 'I', accessFlags := 0x411 }
/-- [I -/
def k9 : Class := { plain "[I" (some 0) with kind := .array 8 .int, interfaces := #[4, 5], accessFlags := 1041 }

/-- the primitive long -/
def k10 : Class := { plain "long" none with kind := .primitive 'J', accessFlags := 0x411 }
/-- [J -/
def k11 : Class := { plain "[J" (some 0) with kind := .array 10 .long, interfaces := #[4, 5], accessFlags := 1041 }

def heap : Heap := #[]
def classes : Array Class := #[k0, k1, k2, k3, k4, k5, k6, k7, k8, k9, k10, k11]
def interned : List (Array UInt16 × Addr) := []
def slotsUsed : Nat := 0
def theMethod : MethodId := ⟨1, 1⟩
def args0 : Array Value := #[.int 3, .int 300, .long 1]
def aboutOver (below : List Frame) : State where
  vm := { classes := classes, interned := interned.toArray }
  heap := heap
  slotsUsed := slotsUsed
  threads := #[{ frames := .invoking theMethod args0 :: below }]
def below0 : List Frame := [.native { method := ⟨0, 0⟩, args := #[] }]
def about1 : State := aboutOver below0
def p0 : Program := .bare "" "" ""
def e0 : Env := launch0.env 0 0 0
theorem w_frames : about1.frames = Frame.invoking theMethod args0 :: below0 := rfl
set_option maxRecDepth 65536 in
theorem w_args : argsFit about1.vm theMethod args0 = true := by decide +kernel
set_option maxRecDepth 65536 in
theorem w_heap : heapFits about1 = true := by decide +kernel
set_option maxRecDepth 65536 in
theorem w_runnable : about1.curStatus? = some .runnable := by decide +kernel
set_option maxRecDepth 65536 in
theorem w_alone : about1.alone = true := by decide +kernel
set_option maxRecDepth 65536 in
theorem w_named : about1.methodNamed? x = some theMethod := by decide +kernel
set_option maxRecDepth 65536 in
theorem w_hears : about1.hears theMethod below0 = true := by decide +kernel
set_option maxRecDepth 65536 in
theorem w_ripe : about1.ripe theMethod args0 below0 = true := by decide +kernel
theorem w_running : about1.status = .running := rfl
set_option maxRecDepth 65536 in
theorem w_room : about1.hasRoom e0.platform room_1 = true :=
  launch0.hasRoom_least _ room_1 (by decide +kernel) (by decide +kernel) (by decide +kernel) (by decide +kernel) (by decide +kernel) (by decide +kernel)
theorem allAtoms_all (ts : List Jvm.Cond) (a : Array Jvm.Value) (st : Jvm.State) : (allAtoms ts).before a st = ts.all (fun c => c.before a st) := by
  induction ts with
  | nil => rfl
  | cons c t ih =>
    show (Jvm.Cond.and c (allAtoms t)).before a st = _
    rw [Jvm.Cond.before_and, ih, List.all_cons]
def words1 : List Jvm.Cond := Jvm.Cond.code x code maxLocals ret :: tables_1
/-- a 'code' word, met by the world's own term for the bytes: nothing is compared byte by byte -/
theorem code_word {y : MethodName} {bytes : ByteArray} {mx : Nat} {rt : Option FieldType} {a : Array Value} {s : State} {m : MethodId} {meth : Method} {c : Code} (h1 : s.methodNamed? y = some m) (h2 : s.vm.method? m = some meth) (h3 : meth.code = some c) (h4 : c.code = bytes)
    (h5 : (c.maxLocals == mx && c.exceptionTable.isEmpty && decide (c.maxStack ≤ mostOperands) && decide (meth.sig.returnType = rt) && !meth.locks && decide (parseMethodDescriptor y.desc = some meth.sig)) = true) : (Jvm.Cond.code y bytes mx rt).before a s = true := by
  simp only [Bool.and_eq_true, beq_iff_eq, Bool.not_eq_true', decide_eq_true_eq] at h5
  obtain ⟨⟨⟨⟨⟨g1, g2⟩, g3⟩, g4⟩, g5⟩, g6⟩ := h5
  simp [Cond.before, Cond.holds, Cond.value, h1, h2, h3, h4, g1, g2, g3, g4, g5, g6]
def isCode : Jvm.Cond → Bool
  | .code _ _ _ _ => true
  | _ => false
theorem all_split {L : List Jvm.Cond} {P : Jvm.Cond → Bool} (h1 : L.all (fun c => isCode c || P c) = true) (h2 : ∀ c ∈ L.filter isCode, P c = true) : L.all P = true := by
  refine List.all_eq_true.mpr fun c hc => ?_
  have h := List.all_eq_true.mp h1 c hc
  rcases Bool.eq_false_or_eq_true (isCode c) with hi | hi
  · exact h2 c (List.mem_filter.mpr ⟨hc, hi⟩)
  · simpa [hi] using h
set_option maxRecDepth 65536 in
theorem w_c0 : (Jvm.Cond.code x code maxLocals ret).before args0 about1 = true := code_word (m := ⟨1, 1⟩) (meth := k1m1) (c := k1c1) (by decide +kernel) rfl rfl rfl (by decide +kernel)
set_option maxRecDepth 65536 in
theorem w_c1 : (Jvm.Cond.code ({ cls := "com/example/parley/parley/bench/ReportNearestRankPinLaw", name := "build", desc := "(IJ)[J" } : Jvm.MethodName) method_3_code (3 : Nat) (Option.some (Jvm.ClassFile.FieldType.array Jvm.ClassFile.FieldType.long))).before args0 about1 = true := code_word (m := ⟨1, 2⟩) (meth := k1m2) (c := k1c2) (by decide +kernel) rfl rfl rfl (by decide +kernel)
set_option maxRecDepth 65536 in
theorem w_c2 : (Jvm.Cond.code ({ cls := "com/example/parley/parley/bench/Report", name := "nearestRank", desc := "([JI)J" } : Jvm.MethodName) prog_9_method_3_code (3 : Nat) (Option.some Jvm.ClassFile.FieldType.long)).before args0 about1 = true := code_word (m := ⟨2, 0⟩) (meth := k2m0) (c := k2c0) (by decide +kernel) rfl rfl rfl (by decide +kernel)
set_option maxRecDepth 65536 in
theorem w_c3 : (Jvm.Cond.code ({ cls := "java/lang/Math", name := "max", desc := "(II)I" } : Jvm.MethodName) jdk_29_method_65_code (2 : Nat) (Option.some Jvm.ClassFile.FieldType.int)).before args0 about1 = true := code_word (m := ⟨3, 1⟩) (meth := k3m1) (c := k3c1) (by decide +kernel) rfl rfl rfl (by decide +kernel)
set_option maxRecDepth 65536 in
theorem w_c4 : (Jvm.Cond.code ({ cls := "com/example/parley/parley/bench/ReportNearestRankPinLaw", name := "leastRank", desc := "(I)I" } : Jvm.MethodName) method_4_code (1 : Nat) (Option.some Jvm.ClassFile.FieldType.int)).before args0 about1 = true := code_word (m := ⟨1, 3⟩) (meth := k1m3) (c := k1c3) (by decide +kernel) rfl rfl rfl (by decide +kernel)
def codes1 : List Jvm.Cond := [Jvm.Cond.code x code maxLocals ret, Jvm.Cond.code ({ cls := "com/example/parley/parley/bench/ReportNearestRankPinLaw", name := "build", desc := "(IJ)[J" } : Jvm.MethodName) method_3_code (3 : Nat) (Option.some (Jvm.ClassFile.FieldType.array Jvm.ClassFile.FieldType.long)), Jvm.Cond.code ({ cls := "com/example/parley/parley/bench/Report", name := "nearestRank", desc := "([JI)J" } : Jvm.MethodName) prog_9_method_3_code (3 : Nat) (Option.some Jvm.ClassFile.FieldType.long), Jvm.Cond.code ({ cls := "java/lang/Math", name := "max", desc := "(II)I" } : Jvm.MethodName) jdk_29_method_65_code (2 : Nat) (Option.some Jvm.ClassFile.FieldType.int), Jvm.Cond.code ({ cls := "com/example/parley/parley/bench/ReportNearestRankPinLaw", name := "leastRank", desc := "(I)I" } : Jvm.MethodName) method_4_code (1 : Nat) (Option.some Jvm.ClassFile.FieldType.int)]
set_option maxRecDepth 65536 in
theorem codes_eq : words1.filter isCode = codes1 := rfl
theorem w_codes : ∀ c ∈ words1.filter isCode, c.before args0 about1 = true := by
  rw [codes_eq]
  intro c hc
  simp only [codes1, List.mem_cons, List.not_mem_nil, or_false] at hc
  rcases hc with rfl | rfl | rfl | rfl | rfl
  · exact w_c0
  · exact w_c1
  · exact w_c2
  · exact w_c3
  · exact w_c4
set_option maxRecDepth 65536 in
theorem w_t1 : (words1.take 24).all (fun c => isCode c || c.before args0 about1) = true := by decide +kernel
set_option maxRecDepth 65536 in
theorem w_t2 : (words1.drop 24).all (fun c => isCode c || c.before args0 about1) = true := by decide +kernel
theorem w_tables : (allAtoms (Jvm.Cond.code x code maxLocals ret :: tables_1)).before args0 about1 = true := by
  rw [allAtoms_all]
  show words1.all (fun c => c.before args0 about1) = true
  refine all_split ?_ w_codes
  rw [← List.take_append_drop 24 words1, List.all_append, w_t1, w_t2]
  rfl
set_option maxRecDepth 65536 in
theorem w_case : (Jvm.Cond.and given_1 narrow_1).before args0 about1 = true := by decide +kernel
theorem w_applies : (headSpec (Jvm.Cond.code x code maxLocals ret :: tables_1) room_1).applies x e0.platform about1 = true :=
  (Spec.applies_iff w_frames).mpr ⟨w_running, w_runnable, w_alone, w_named, w_hears, w_ripe, w_room, w_tables⟩
theorem atStart : AtStart classFile x code maxLocals ret World_1 tables_1 room_1 Calls_1 rest_1 Pre_1 launch0 p0 e0 about1 theMethod args0 below0 :=
  ⟨lists_1, trivial, launch0.admits_env _ _ _, launch0.least_env, fairChoices_fair.cas, fairChoices_fair.clock, w_frames, w_args, w_heap, w_applies, trivial, trivial, w_case⟩
end start1
theorem witness_1 : WitnessClaimed_1 := ⟨start1.p0, start1.e0, start1.about1, start1.theMethod, start1.args0, start1.below0, start1.atStart⟩
end Jvm.Pilot.@@N@@
