import JvmDerived
import JvmDerived.Pilot.@@N@@Statement
import JvmDerived.Pilot.@@N@@Code
set_option linter.unusedVariables false
set_option linter.unusedSimpArgs false
namespace Jvm.Pilot.@@N@@.OwnKit
open Jvm Sem ClassFile Op Lib Jvm.Stand Jvm.Free Jvm.LawKit Jvm.RoadKit
section New
variable {p : Program} {l : Launch} {e : Env} {R : Room} {s : State} {m : MethodId} {args : Array Value} {below : List Frame} {meth : Method} {c : Code} {T : State} {locs : List Loc} {cells slots : Nat}
theorem retI (X : Stand p l e R s m args below meth c T locs cells slots) (hx : p.tables.exec = Jvm.exec) {pc : Nat} {Ls : Array Slot} {z : Int32} {rest : List Value} (hret : meth.sig.returnType = some .int) (hd : decode c.code pc = .ok (.ireturn, 1)) {fs : List Frame}
    (hl : ∀ (f : JFrame) (acts : List Action), f.method = m → f.locked = none → f.entered = [] → (doReturn e (T.setTop f) acts (some (.int z))).1 = T.setFrames fs) : Steps p.tables e below (T.setTop (mkF m pc Ls (.int z :: rest))) (T.setFrames fs) :=
  retOut X hx hret rfl (Or.inl ⟨rfl, Or.inl rfl, _, rfl⟩) hd hl
theorem lremM {g : JFrame} {target : State} (X : Stand p l e R s m args below meth c T locs cells slots) (hx : p.tables.exec = Jvm.exec) (hg : g.method = m) {x y : Int64} {rest : List Value} (hd : decode c.code g.pc = .ok (.lrem, 1)) (hs : g.stack = .long y :: .long x :: rest) (hy : y ≠ 0)
    (hr : Steps p.tables e below (T.setTop { g with pc := g.pc + 1, stack := .long (x % y) :: rest }) target) : Steps p.tables e below (T.setTop g) target := by
  have q : x - x / y * y = x % y := by
    have g1 := rng64 (x % y)
    have g2 : (x % y).toInt = x.toInt.tmod y.toInt := Int64.toInt_mod x y
    have g3 := Int.tmod_def x.toInt y.toInt
    have g4 : (x / y).toInt = (x.toInt.tdiv y.toInt).bmod (2 ^ 64) := Int64.toInt_div x y
    apply Int64.toInt_inj.mp
    rw [Int64.toInt_sub, Int64.toInt_mul, g4, Int.bmod_mul_bmod, Int.sub_bmod_bmod, Int.mul_comm (x.toInt.tdiv y.toInt), ← g3, ← g2]
    exact Int.bmod_eq_of_le_mul_two (by omega) (by omega)
  exact XS.lrem X.here hx hg hd hs hy (by rw [q]; exact hr)
end New
/-- from here the run ends, and as G says -/
def Goes (tb : Tables) (e : Env) (below : List Frame) (t : State) (G : State → Outcome → Prop) : Prop := ∃ s₂ o, Steps tb e below t s₂ ∧ s₂.status = .running ∧ Ended s₂ below o ∧ G s₂ o
variable {tb : Tables} {e : Env} {below : List Frame} {t t' : State} {G : State → Outcome → Prop}
theorem Goes.by (k : ∀ u, Steps tb e below t' u → Steps tb e below t u) (h : Goes tb e below t' G) : Goes tb e below t G := by
  obtain ⟨s₂, o, h1, h2⟩ := h; exact ⟨s₂, o, k _ h1, h2⟩
theorem Goes.via (k : Steps tb e below t t') (h : Goes tb e below t' G) : Goes tb e below t G := by
  obtain ⟨s₂, o, h1, h2⟩ := h; exact ⟨s₂, o, k.trans h1, h2⟩
theorem jl_t {x y : Int64} (h : x < y) : ifCond.holds .lt (lcmpW x y) = true ∧ ifCond.holds .ge (lcmpW x y) = false := ⟨(if0 _ _).trans (tlt ((lw_lt x y).mpr h)).1, (if0 _ _).trans (tlt ((lw_lt x y).mpr h)).2.1⟩
theorem jl_f {x y : Int64} (h : ¬ x < y) : ifCond.holds .lt (lcmpW x y) = false ∧ ifCond.holds .ge (lcmpW x y) = true := ⟨(if0 _ _).trans (flt (fun q => h ((lw_lt x y).mp q))).1, (if0 _ _).trans (flt (fun q => h ((lw_lt x y).mp q))).2.1⟩
theorem jg_t {x y : Int64} (h : y < x) : ifCond.holds .gt (lcmpW x y) = true ∧ ifCond.holds .le (lcmpW x y) = false := ⟨(if0 _ _).trans (tlt ((lw_gt x y).mpr h)).2.2.1, (if0 _ _).trans (tlt ((lw_gt x y).mpr h)).2.2.2⟩
theorem jg_f {x y : Int64} (h : ¬ y < x) : ifCond.holds .gt (lcmpW x y) = false ∧ ifCond.holds .le (lcmpW x y) = true := ⟨(if0 _ _).trans (flt (fun q => h ((lw_gt x y).mp q))).2.2.1, (if0 _ _).trans (flt (fun q => h ((lw_gt x y).mp q))).2.2.2⟩
theorem je_t {x y : Int64} (h : x = y) : ifCond.holds .eq (lcmpW x y) = true ∧ ifCond.holds .ne (lcmpW x y) = false := ⟨(if0 _ _).trans (teq ((lw_eq x y).mpr h)).1, (if0 _ _).trans (teq ((lw_eq x y).mpr h)).2⟩
theorem je_f {x y : Int64} (h : ¬ x = y) : ifCond.holds .eq (lcmpW x y) = false ∧ ifCond.holds .ne (lcmpW x y) = true := ⟨(if0 _ _).trans (feq (fun q => h ((lw_eq x y).mp q))).1, (if0 _ _).trans (feq (fun q => h ((lw_eq x y).mp q))).2⟩
theorem selP {Z s : State} {a0 args : Array Value} {y : MethodName} {n : Nat} (hZ : Z.Warmed39 s.vm) (wi : (Cond.instantiable y.cls n).before a0 Z = true) (wp : (Cond.privateMethod y).before a0 Z = true) (win : (Cond.instanceMethod y).before a0 Z = true) (hy : y.cls ≠ "java/lang/invoke/MethodHandle" ∧ y.cls ≠ "java/lang/invoke/VarHandle") : (Cond.selects y.cls y y).before args s = true := by
  have w1 : (Cond.instantiable y.cls n).before args s = true := mv hZ wi
  obtain ⟨c, k, h1, h2, -, h4, -⟩ := Cond.instantiable_spec w1
  rw [Bool.or_eq_false_iff] at h4
  exact selects_self_of_private h1 h2 h4.1 (Cond.privateMethod_at (mvP hZ wp (args := args))) (mv hZ win) hy
theorem narR {t : FieldType} {w : Value} (h : t.isReference = true) : narrow t w = w := by cases t <;> first | (cases h; done) | (cases w <;> rfl)
end Jvm.Pilot.@@N@@.OwnKit
namespace Jvm.Pilot.@@N@@.OwnKit
open Jvm Sem ClassFile Op Lib Jvm.Stand Jvm.Free Jvm.LawKit Jvm.RoadKit
/-- one place of a function turned -/
def up {α : Type} (f : Nat → α) (i : Nat) (v : α) : Nat → α := fun j => if j = i then v else f j
/-- an array of n places; place j holds f j -/
def Ar (Z : State) (h : Heap) (a : Addr) (ty : FieldType) (n : Nat) (f : Nat → Value) : Prop := ∃ c : Cell, Arr Z h a c ty ∧ c.slots.size = n ∧ n < 2 ^ 31 ∧ ∀ j, j < n → c.slots[j]? = some (f j) ∧ fits ty (f j) = true
def AI (Z : State) (h : Heap) (a : Addr) (ty : FieldType) (n : Nat) (f : Nat → Int32) : Prop := Ar Z h a ty n (fun j => .int (f j))
def AJ (Z : State) (h : Heap) (a : Addr) (n : Nat) (f : Nat → Int64) : Prop := Ar Z h a .long n (fun j => .long (f j))
section Facts
variable {Z : State} {h h' : Heap} {a b : Addr} {ty : FieldType} {n sl : Nat} {f : Nat → Value} {g : Nat → Int32} {k : Nat → Int64} {v : Value} {ws : List Addr}
theorem up_at {α : Type} (f : Nat → α) (i : Nat) (v : α) : up f i v i = v := if_pos rfl
theorem up_ne {α : Type} (f : Nat → α) {i j : Nat} (v : α) (q : j ≠ i) : up f i v j = f j := if_neg q
theorem Ar.lt (A : Ar Z h a ty n f) : a < h.size := by obtain ⟨c, A, -⟩ := A; exact A.lt
theorem Ar.ext (A : Ar Z h a ty n f) (E : Ext h h') : Ar Z h' a ty n f := by obtain ⟨c, A, r⟩ := A; exact ⟨c, A.ext E, r⟩
theorem Ar.other (A : Ar Z h b ty n f) (W : Wr h h' a sl v) (q : b ≠ a) : Ar Z h' b ty n f := by obtain ⟨c, A, r⟩ := A; exact ⟨c, A.other W q, r⟩
theorem Ar.keep (A : Ar Z h a ty n f) (K : Keep h h' ws) (q : a ∉ ws) : Ar Z h' a ty n f := by obtain ⟨c, A, r⟩ := A; exact ⟨c, ⟨K.2.1 a c A.1 q, A.2⟩, r⟩
theorem own_setSlot (c : Cell) (i : Nat) (v : Value) : (c.setSlot i v).slots = c.slots.setIfInBounds i v := rfl
theorem Ar.wr (A : Ar Z h a ty n f) (W : Wr h h' a sl v) (hf : fits ty v = true) : Ar Z h' a ty n (up f sl v) := by
  obtain ⟨c, A, S, M, G⟩ := A
  refine ⟨c.setSlot sl v, A.same W, by rw [sz_set]; exact S, M, fun j hj => ?_⟩
  by_cases q : j = sl
  · subst q; rw [up_at, own_setSlot, Array.getElem?_setIfInBounds_self_of_lt (by omega)]; exact ⟨rfl, hf⟩
  · rw [up_ne f v q, own_setSlot, Array.getElem?_setIfInBounds_ne (Ne.symm q)]; exact G j hj
theorem Ar.congr {f' : Nat → Value} (A : Ar Z h a ty n f) (q : ∀ j, j < n → f j = f' j) : Ar Z h a ty n f' := by
  obtain ⟨c, A, S, M, G⟩ := A; exact ⟨c, A, S, M, fun j hj => by rw [← q j hj]; exact G j hj⟩
theorem AI.lt (A : AI Z h a ty n g) : a < h.size := Ar.lt A
theorem AI.ext (A : AI Z h a ty n g) (E : Ext h h') : AI Z h' a ty n g := Ar.ext A E
theorem AI.other (A : AI Z h b ty n g) (W : Wr h h' a sl v) (q : b ≠ a) : AI Z h' b ty n g := Ar.other A W q
theorem AI.keep (A : AI Z h a ty n g) (K : Keep h h' ws) (q : a ∉ ws) : AI Z h' a ty n g := Ar.keep A K q
theorem AI.wr {x : Int32} (A : AI Z h a ty n g) (W : Wr h h' a sl (.int x)) (hf : fits ty (.int x) = true) : AI Z h' a ty n (up g sl x) :=
  (Ar.wr A W hf).congr fun j _ => by simp only [up]; split <;> rfl
theorem AI.congr {g' : Nat → Int32} (A : AI Z h a ty n g) (q : ∀ j, j < n → g j = g' j) : AI Z h a ty n g' := Ar.congr A fun j hj => by rw [q j hj]
theorem AJ.lt (A : AJ Z h a n k) : a < h.size := Ar.lt A
theorem AJ.ext (A : AJ Z h a n k) (E : Ext h h') : AJ Z h' a n k := Ar.ext A E
theorem AJ.other (A : AJ Z h b n k) (W : Wr h h' a sl v) (q : b ≠ a) : AJ Z h' b n k := Ar.other A W q
theorem AJ.keep (A : AJ Z h a n k) (K : Keep h h' ws) (q : a ∉ ws) : AJ Z h' a n k := Ar.keep A K q
theorem AJ.wr {x : Int64} (A : AJ Z h a n k) (W : Wr h h' a sl (.long x)) : AJ Z h' a n (up k sl x) :=
  (Ar.wr A W rfl).congr fun j _ => by simp only [up]; split <;> rfl
theorem AJ.congr {k' : Nat → Int64} (A : AJ Z h a n k) (q : ∀ j, j < n → k j = k' j) : AJ Z h a n k' := Ar.congr A fun j hj => by rw [q j hj]
theorem Ar.bound (A : Ar Z h a ty n f) : n < 2 ^ 31 := by obtain ⟨c, A, S, M, G⟩ := A; exact M
theorem ixo {j : Int32} {i n : Nat} (hj : j.toInt = (i : Int)) (hi : i < n) : ¬ (j < 0 ∨ n ≤ j.toNatClampNeg) ∧ j.toNatClampNeg = i := by
  have e0 : (0 : Int32).toInt = 0 := rfl
  have q : j.toNatClampNeg = i := by rw [Int32.toNatClampNeg, hj]; rfl
  refine ⟨fun z => z.elim (fun u => ?_) fun u => ?_, q⟩
  · rw [Int32.lt_iff_toInt_lt] at u; omega
  · omega
theorem lenI {n : Nat} {z : Int32} (hz : z.toInt = (n : Int)) : n.toInt32 = z := by
  apply Int32.toInt_inj.mp
  have r := rng32 z
  rw [hz]; exact Int32.toInt_ofNat_of_lt (by omega)
theorem Ar.arv (A : Ar Z h a ty n f) : ∃ k, Arv Z h a k ty (Int32.ofNat n) ((List.range n).map f) (f 0) := by
  obtain ⟨c, A, S, M, G⟩ := A
  have e0 : (0 : Int32).toInt = 0 := rfl
  have hz : (Int32.ofNat n).toInt = (n : Int) := Int32.toInt_ofNat_of_lt (by omega)
  have hq : (Int32.ofNat n).toNatClampNeg = n := by rw [Int32.toNatClampNeg, hz]; rfl
  have hg : ∀ i, i < n → ((List.range n).map f).getD i (f 0) = f i := fun i hi => by
    rw [List.getD_eq_getElem?_getD, List.getElem?_map, List.getElem?_range hi]; rfl
  refine ⟨c.cls, c, A, rfl, by rw [hq]; exact S, by rw [Int32.lt_iff_toInt_lt, hz]; omega, fun i hi => ?_, fun i hi => ?_⟩
  · rw [hg i (by omega)]; exact (G i (by omega)).1
  · rw [hg i (by omega)]; exact (G i (by omega)).2
theorem Ar.of_arv {k : ClassId} {z : Int32} {vs : List Value} {d : Value} (A : Arv Z h a k ty z vs d) (hz : z.toInt = (n : Int)) : Ar Z h a ty n (fun j => vs.getD j d) := by
  obtain ⟨c, A, q, S, N, H, G⟩ := A
  have hq : z.toNatClampNeg = n := by rw [Int32.toNatClampNeg, hz]; rfl
  have r := rng32 z
  exact ⟨c, A, by rw [S, hq], by omega, fun j hj => ⟨H j (by omega), G j (by omega)⟩⟩
end Facts
section Steps
variable {p : Program} {l : Launch} {e : Env} {R : Room} {s : State} {m : MethodId} {args : Array Value} {below : List Frame} {meth : Method} {c : Code} {T : State} {locs : List Loc} {cells slots : Nat} {Z : State} {h : Heap} {a : Addr} {n i : Nat} {j : Int32} {rest : List Value} {fr : JFrame} {target : State}
theorem ldI {f : Nat → Int32} {v : Int32} (X : Stand p l e R s m args below meth c T locs cells slots) (hx : p.tables.exec = Jvm.exec) (hZ : Z.Warmed39 s.vm) (eT : T.heap = h) (A : AI Z h a .int n f) (hj : j.toInt = (i : Int)) (hi : i < n) (hv : v = f i) (hg : fr.method = m) (hs : fr.stack = .int j :: .ref a :: rest) (hd : decode c.code fr.pc = .ok (.iaload, 1))
    (hr : Steps p.tables e below (T.setTop { fr with pc := fr.pc + 1, stack := .int v :: rest }) target) : Steps p.tables e below (T.setTop fr) target := by
  obtain ⟨cl, A, S, M, G⟩ := A
  obtain ⟨q1, q2⟩ := ixo hj hi
  exact X.iaload hx (j := j) (v := .int v) (by rw [eT]; exact A.1) (State.isArrayOf_alike hZ.alike A.2.1) A.2.2 (by rw [S]; exact q1) (by rw [q2, hv]; exact (G i hi).1) hg hs hd _ hr
theorem ldB {f : Nat → Int32} {v : Int32} (X : Stand p l e R s m args below meth c T locs cells slots) (hx : p.tables.exec = Jvm.exec) (hZ : Z.Warmed39 s.vm) (eT : T.heap = h) (A : AI Z h a .byte n f) (hj : j.toInt = (i : Int)) (hi : i < n) (hv : v = f i) (hg : fr.method = m) (hs : fr.stack = .int j :: .ref a :: rest) (hd : decode c.code fr.pc = .ok (.baload, 1))
    (hr : Steps p.tables e below (T.setTop { fr with pc := fr.pc + 1, stack := .int v :: rest }) target) : Steps p.tables e below (T.setTop fr) target := by
  obtain ⟨cl, A, S, M, G⟩ := A
  obtain ⟨q1, q2⟩ := ixo hj hi
  exact X.baloadBytes hx (j := j) (v := .int v) (by rw [eT]; exact A.1) (State.isArrayOf_alike hZ.alike A.2.1) A.2.2 (by rw [S]; exact q1) (by rw [q2, hv]; exact (G i hi).1) hg hs hd _ hr
theorem ldJ {f : Nat → Int64} {v : Int64} (X : Stand p l e R s m args below meth c T locs cells slots) (hx : p.tables.exec = Jvm.exec) (hZ : Z.Warmed39 s.vm) (eT : T.heap = h) (A : AJ Z h a n f) (hj : j.toInt = (i : Int)) (hi : i < n) (hv : v = f i) (hg : fr.method = m) (hs : fr.stack = .int j :: .ref a :: rest) (hd : decode c.code fr.pc = .ok (.laload, 1))
    (hr : Steps p.tables e below (T.setTop { fr with pc := fr.pc + 1, stack := .long v :: rest }) target) : Steps p.tables e below (T.setTop fr) target := by
  obtain ⟨cl, A, S, M, G⟩ := A
  obtain ⟨q1, q2⟩ := ixo hj hi
  exact X.laload hx (j := j) (v := .long v) (by rw [eT]; exact A.1) (State.isArrayOf_alike hZ.alike A.2.1) A.2.2 (by rw [S]; exact q1) (by rw [q2, hv]; exact (G i hi).1) hg hs hd _ hr
theorem alen {ty : FieldType} {f : Nat → Value} {z : Int32} (X : Stand p l e R s m args below meth c T locs cells slots) (hx : p.tables.exec = Jvm.exec) (hZ : Z.Warmed39 s.vm) (eT : T.heap = h) (A : Ar Z h a ty n f) (hz : z.toInt = (n : Int)) (hg : fr.method = m) (hs : fr.stack = .ref a :: rest) (hd : decode c.code fr.pc = .ok (.arraylength, 1))
    (hr : Steps p.tables e below (T.setTop { fr with pc := fr.pc + 1, stack := .int z :: rest }) target) : Steps p.tables e below (T.setTop fr) target := by
  obtain ⟨cl, A, S, M, G⟩ := A
  exact X.arraylength hx (by rw [eT]; exact A.1) (State.isArrayOf_alike hZ.alike A.2.1) hg hs hd _ (by rw [S, lenI hz]; exact hr)
theorem stAI {f : Nat → Int32} {x : Int32} (X : Stand p l e R s m args below meth c T locs cells slots) (hx : p.tables.exec = Jvm.exec) (hZ : Z.Warmed39 s.vm) (eT : T.heap = h) (A : AI Z h a .int n f) (hj : j.toInt = (i : Int)) (hi : i < n) (hg : fr.method = m) (hs : fr.stack = .int x :: .int j :: .ref a :: rest) (hd : decode c.code fr.pc = .ok (.iastore, 1)) :
    ∃ T' h', Stand p l e R s m args below meth c T' (locs ++ [⟨a, i⟩]) cells slots ∧ T'.heap = h' ∧ Wr h h' a i (.int x) ∧ AI Z h' a .int n (up f i x) ∧ ∀ target, Steps p.tables e below (T'.setTop { fr with pc := fr.pc + 1, stack := rest }) target → Steps p.tables e below (T.setTop fr) target := by
  have A0 := A
  obtain ⟨cl, A, S, M, G⟩ := A
  obtain ⟨q1, q2⟩ := ixo hj hi
  obtain ⟨T', h', X', e', W', st⟩ := stI X hx hZ eT A (j := j) (by rw [S]; exact q1) hg hs hd
  rw [q2] at X' W'
  exact ⟨T', h', X', e', W', A0.wr W' rfl, st⟩
theorem stAB {f : Nat → Int32} {x : Int32} (X : Stand p l e R s m args below meth c T locs cells slots) (hx : p.tables.exec = Jvm.exec) (hZ : Z.Warmed39 s.vm) (eT : T.heap = h) (A : AI Z h a .byte n f) (hj : j.toInt = (i : Int)) (hi : i < n) (hg : fr.method = m) (hs : fr.stack = .int x :: .int j :: .ref a :: rest) (hd : decode c.code fr.pc = .ok (.bastore, 1)) :
    ∃ T' h', Stand p l e R s m args below meth c T' (locs ++ [⟨a, i⟩]) cells slots ∧ T'.heap = h' ∧ Wr h h' a i (.int x.toInt8.toInt32) ∧ AI Z h' a .byte n (up f i x.toInt8.toInt32) ∧ ∀ target, Steps p.tables e below (T'.setTop { fr with pc := fr.pc + 1, stack := rest }) target → Steps p.tables e below (T.setTop fr) target := by
  have A0 := A
  obtain ⟨cl, A, S, M, G⟩ := A
  obtain ⟨q1, q2⟩ := ixo hj hi
  obtain ⟨T', h', X', e', W', st⟩ := stB X hx hZ eT A (j := j) (by rw [S]; exact q1) hg hs hd
  rw [q2] at X' W'
  exact ⟨T', h', X', e', W', A0.wr W' (fits_nar_byte x), st⟩
theorem stAJ {f : Nat → Int64} {x : Int64} (X : Stand p l e R s m args below meth c T locs cells slots) (hx : p.tables.exec = Jvm.exec) (hZ : Z.Warmed39 s.vm) (eT : T.heap = h) (A : AJ Z h a n f) (hj : j.toInt = (i : Int)) (hi : i < n) (hg : fr.method = m) (hs : fr.stack = .long x :: .int j :: .ref a :: rest) (hd : decode c.code fr.pc = .ok (.lastore, 1)) :
    ∃ T' h', Stand p l e R s m args below meth c T' (locs ++ [⟨a, i⟩]) cells slots ∧ T'.heap = h' ∧ Wr h h' a i (.long x) ∧ AJ Z h' a n (up f i x) ∧ ∀ target, Steps p.tables e below (T'.setTop { fr with pc := fr.pc + 1, stack := rest }) target → Steps p.tables e below (T.setTop fr) target := by
  have A0 := A
  obtain ⟨cl, A, S, M, G⟩ := A
  obtain ⟨q1, q2⟩ := ixo hj hi
  obtain ⟨T', h', X', e', W', st⟩ := stJ X hx hZ eT A (j := j) (by rw [S]; exact q1) hg hs hd
  rw [q2] at X' W'
  exact ⟨T', h', X', e', W', A0.wr W', st⟩
theorem nwA {a0 : Array Value} {aty : ArrayType} {z : Int32} {cap : Nat} (X : Stand p l e R s m args below meth c T locs cells slots) (hx : p.tables.exec = Jvm.exec) (hZ : Z.Warmed39 s.vm) (w : (Cond.arrayClass (newarray.typeOf aty)).before a0 Z = true) (eT : T.heap = h) (hz : z.toInt = (n : Int)) (hcap : n ≤ cap) (hb : cap * 8 ≤ 536870912) (hc : cells + 1 ≤ R.cells) (hl : slots + cap ≤ R.slots) (hg : fr.method = m) (hs : fr.stack = .int z :: rest) (hd : decode c.code fr.pc = .ok (.newarray aty, 2)) :
    ∃ T' h', Stand p l e R s m args below meth c T' locs (cells + 1) (slots + cap) ∧ T'.heap = h' ∧ Ext h h' ∧ Ar Z h' h.size (newarray.typeOf aty) n (fun _ => defaultValue (newarray.typeOf aty)) ∧ ∀ target, Steps p.tables e below (T'.setTop { fr with pc := fr.pc + 2, stack := .ref h.size :: rest }) target → Steps p.tables e below (T.setTop fr) target := by
  have e0 : (0 : Int32).toInt = 0 := rfl
  have q : z.toNatClampNeg = n := by rw [Int32.toNatClampNeg, hz]; rfl
  have qn : ¬ z < 0 := by rw [Int32.lt_iff_toInt_lt]; omega
  have r := rng32 z
  obtain ⟨T', h', cA, X', e', E', A', st⟩ := newP X hx hZ w eT hg hd hs qn (cap := cap) (by omega) hb hc hl
  refine ⟨T', h', X', e', E', ⟨_, A', by rw [sz_new, q], by omega, fun i hi => ⟨?_, by cases aty <;> rfl⟩⟩, st⟩
  simp [newA, q, hi]
/-- System.arraycopy of the first k places -/
theorem cpAr {a0 : Array Value} {own : String} {index : Nat} {b : Addr} {ty : FieldType} {n1 n2 k : Nat} {f1 f2 : Nat → Value} {nn : Int32} {n0 W : Nat} (X : Stand p l e R s m args below meth c T locs cells slots) (hx : p.tables.exec = Jvm.exec) (hZ : Z.Warmed39 s.vm) (hown : s.vm.findClass own = some m.cls)
    (w1 : (Cond.methodLink own index Jvm.Stand.acN).before a0 Z = true) (w2 : (Cond.native Jvm.Stand.acN).before a0 Z = true) (w3 : (Cond.static Jvm.Stand.acN).before a0 Z = true) (w4 : (Cond.initialized "java/lang/System").before a0 Z = true) (eT : T.heap = h)
    (A : Ar Z h a ty n1 f1) (B : Ar Z h b ty n2 f2) (hty : refKind ty = false) (hk : nn.toInt = (k : Int)) (h4 : k ≤ n1) (h5 : k ≤ n2) (N : Fr n0 locs) (ge : n0 ≤ b)
    (hg : fr.method = m) (hsize : fr.locals.size = c.maxLocals) (hs : fr.stack = .int nn :: .int 0 :: .ref b :: .int 0 :: .ref a :: rest) (hd : decode c.code fr.pc = .ok (.invokestatic index, 3))
    (hf : 1 ≤ R.frames) (hW : 2 * fr.monitorRoom + (rest.map fun v => v.category).sum ≤ W) (hlo : W + (nativeFrameWords "java/lang/System" "arraycopy" 5 + 11) ≤ R.locals) :
    ∃ T' h' L, Stand p l e R s m args below meth c T' L cells slots ∧ T'.heap = h' ∧ Fr n0 L ∧ Keep h h' [b] ∧ Ar Z h' b ty n2 (fun j => if j < k then f1 j else f2 j) ∧
      ∀ target, Steps p.tables e below (T'.setTop { fr with pc := fr.pc + 3, stack := rest }) target → Steps p.tables e below (T.setTop fr) target := by
  obtain ⟨ka, A'⟩ := A.arv
  obtain ⟨kb, B'⟩ := B.arv
  have m1 := A.bound
  have m2 := B.bound
  have e0 : (0 : Int32).toInt = 0 := rfl
  have z0 : (0 : Int32).toNatClampNeg = 0 := rfl
  have hkk : nn.toNatClampNeg = k := by rw [Int32.toNatClampNeg, hk]; rfl
  have q1 : (Int32.ofNat n1).toInt = (n1 : Int) := Int32.toInt_ofNat_of_lt (by omega)
  have q2 : (Int32.ofNat n2).toInt = (n2 : Int) := Int32.toInt_ofNat_of_lt (by omega)
  have p1 : (Int32.ofNat n1).toNatClampNeg = n1 := by rw [Int32.toNatClampNeg, q1]; rfl
  have p2 : (Int32.ofNat n2).toNatClampNeg = n2 := by rw [Int32.toNatClampNeg, q2]; rfl
  obtain ⟨T', h', L', X', e', N', K', B2, st⟩ := cpA X hx hZ hown w1 w2 w3 w4 eT A' B' (Or.inl ⟨rfl, hty⟩) (sp := 0) (dp := 0) (nn := nn) (by decide) (by decide) (by rw [Int32.lt_iff_toInt_lt]; omega) (by rw [z0, hkk, p1]; omega) (by rw [z0, hkk, p2]; omega) rfl (by rw [z0, hkk, List.length_map, List.length_range]; omega) N ge hg hsize hs hd hf hW hlo
  refine ⟨T', h', L', X', e', N', K', (Ar.of_arv B2 q2).congr fun j hj => ?_, st⟩
  simp only [z0, hkk, List.take_zero, List.nil_append, Nat.zero_add, List.getD_eq_getElem?_getD]
  by_cases c1 : j < k
  · rw [if_pos c1, List.getElem?_append_left (by simpa using c1)]
    simp [c1, show j < n1 by omega]
  · rw [if_neg c1, List.getElem?_append_right (by simpa using c1)]
    simp [show k + (j - k) = j by omega, hj]
end Steps
end Jvm.Pilot.@@N@@.OwnKit
namespace Jvm.Pilot.@@N@@
open Jvm Jvm.ClassFile Sem Op Lib Jvm.Free Jvm.Stand Jvm.LawKit Jvm.RoadKit Bundle Jvm.Pilot.@@N@@.Jvm.D Jvm.Pilot.@@N@@.OwnKit
theorem d1_0 : decode prog_1_method_1_code 0 = .ok (.aload_n 0, 1) := by decide +kernel
theorem d1_1 : decode prog_1_method_1_code 1 = .ok (.invokespecial 1, 3) := by decide +kernel
theorem d1_4 : decode prog_1_method_1_code 4 = .ok (.aload_n 0, 1) := by decide +kernel
theorem d1_5 : decode prog_1_method_1_code 5 = .ok (.sipush 256, 3) := by decide +kernel
theorem d1_8 : decode prog_1_method_1_code 8 = .ok (.newarray .byte, 2) := by decide +kernel
theorem d1_10 : decode prog_1_method_1_code 10 = .ok (.putfield 7, 3) := by decide +kernel
theorem d1_13 : decode prog_1_method_1_code 13 = .ok (.return_, 1) := by decide +kernel
theorem pn_0 : plainName "com/example/javelot/javelot/classfile/ByteWriter" = true := by first | (simp [plainName, overriddenIn]; done) | decide +kernel
theorem ef1 (m : MethodId) (oa : Addr) : entryFrame m #[(.ref oa)] 1 = mkF m 0 #[.val (.ref oa)] [] := by first | (simp [entryFrame, mkF, argsToLocals, Value.category]; done) | rfl
def Q1 (Z : State) (oa : Addr) (h0 : Heap) (n0 : Nat) (v : Option Value) (h : Heap) (L : List Loc) : Prop := ∃ ob : Addr, v = none ∧ Fr n0 L ∧ Keep h0 h [oa] ∧ Exa Z h oa "com/example/javelot/javelot/classfile/ByteWriter" ∧ Fld Z h oa "com/example/javelot/javelot/classfile/ByteWriter" "bytes" "[B" (.ref ob) ∧ Fld Z h oa "com/example/javelot/javelot/classfile/ByteWriter" "size" "I" (.int (0 : Int32)) ∧ AI Z h ob .byte 256 (fun _ => (0 : Int32)) ∧ (h0.size ≤ ob) ∧ (oa ≠ ob)
set_option maxRecDepth 65536 in
set_option maxHeartbeats 40000000 in
theorem rm1 (l : Launch) (Z : State) (a0 : Array Value) (hw : ∀ d ∈ tables_1, d.before a0 Z = true) (ws : List Jvm.Cond) (oa : Addr) (h0 : Heap) (n0 : Nat) (Z0 : n0 ≤ h0.size) (E_oa : Exa Z h0 oa "com/example/javelot/javelot/classfile/ByteWriter") (F_oa_bytes : Fld Z h0 oa "com/example/javelot/javelot/classfile/ByteWriter" "bytes" "[B" .null) (F_oa_size : Fld Z h0 oa "com/example/javelot/javelot/classfile/ByteWriter" "size" "I" (.int (0 : Int32))) (g_oa : n0 ≤ oa) :
    MetFree l (⟨"com/example/javelot/javelot/classfile/ByteWriter", "<init>", "()V"⟩ : MethodName) (head1 (Jvm.Cond.code (⟨"com/example/javelot/javelot/classfile/ByteWriter", "<init>", "()V"⟩ : MethodName) prog_1_method_1_code 1 none :: ws) ({ frames := 1, cells := 1, slots := 256, locals := 12 } : Room)) (fun a U => a = #[(.ref oa)] ∧ Z.Warmed39 U.vm ∧ U.heap = h0) (fun _ _ _ _ _ => True) (fun _ U o U' => ∃ v L, o = .returned v ∧ Q1 Z oa h0 n0 v U'.heap L ∧ FrameEnd U o U' L ({ frames := 1, cells := 1, slots := 256, locals := 12 } : Room).cells ({ frames := 1, cells := 1, slots := 256, locals := 12 } : Room).slots) := by
  refine MetFree.of_bodySF (plainFor_of_name pn_0) hisR ?_
  intro p e s m args below meth c s₁ Bd hml0 hP hK
  obtain ⟨rfl, hZ, hh⟩ := hP
  have hx := Bd.exec
  have hby := Bd.bytes
  have hml : c.maxLocals = 1 := hml0
  have hown : s.vm.findClass "com/example/javelot/javelot/classfile/ByteWriter" = some m.cls := findClass_of_methodNamed Bd.named
  have hnm := (name_of_methodNamed Bd.named Bd.method).1
  have X0 : Stand p l e ({ frames := 1, cells := 1, slots := 256, locals := 12 } : Room) s m #[(.ref oa)] below meth c s₁ [] 0 0 := Stand.of_body Bd
  have e0 : s₁.heap = h0 := by rw [← hh, Bd.state]; rfl
  have N0 := Fr.nil n0
  refine Goes.by (fun _ k => castTop (ef1 m oa) k) ?_
  show Goes p.tables e below (s₁.setTop (mkF m 0 #[.val (.ref oa)] [])) _
  refine Goes.by (fun _ k => XS.aloadN X0.here hx rfl (hb hby d1_0) rfl rfl k) ?_
  show Goes p.tables e below (s₁.setTop (mkF m 1 #[.val (.ref oa)] [(.ref oa)])) _
  obtain ⟨T1, X1, e1, st1⟩ := initO X0 hx hZ hown (hw _ (List.mem_of_getElem? (i := 7) rfl)) (hw _ (List.mem_of_getElem? (i := 8) rfl)) (hw _ (List.mem_of_getElem? (i := 9) rfl)) e0 (g := (mkF m 1 #[.val (.ref oa)] [(.ref oa)])) rfl (by rw [hml]; rfl) rfl (hb hby d1_1) (by decide) (W := 0) (by show 2 * 0 + _ ≤ _; exact Nat.le_of_eq rfl) (by decide)
  refine Goes.by st1 ?_
  show Goes p.tables e below (T1.setTop (mkF m 4 #[.val (.ref oa)] [])) _
  refine Goes.by (fun _ k => XS.aloadN X1.here hx rfl (hb hby d1_4) rfl rfl k) ?_
  show Goes p.tables e below (T1.setTop (mkF m 5 #[.val (.ref oa)] [(.ref oa)])) _
  refine Goes.by (fun _ k => XS.sipush X1.here hx rfl (hb hby d1_5) k) ?_
  show Goes p.tables e below (T1.setTop (mkF m 8 #[.val (.ref oa)] [(.int (256 : Int32)), (.ref oa)])) _
  obtain ⟨T2, h2, X2, e2, E2, A2, st2⟩ := nwA (n := 256) (cap := 256) (fr := (mkF m 8 #[.val (.ref oa)] [(.int (256 : Int32)), (.ref oa)])) X1 hx hZ (hw _ (List.mem_of_getElem? (i := 10) rfl)) e1 (by decide) (by decide) (by decide) (by decide) (by decide) rfl rfl (hb hby d1_8)
  obtain ⟨b2, g2⟩ : ∃ z, z = h0.size := ⟨_, rfl⟩
  rw [← g2] at A2 st2
  have g_b2 : n0 ≤ b2 := Nat.le_trans Z0 (Nat.le_of_eq g2.symm)
  have sz_b2 : h0.size ≤ b2 := Nat.le_trans (Keep.refl h0 [oa]).1 (Nat.le_of_eq g2.symm)
  have ne_oa_b2 : oa ≠ b2 := Nat.ne_of_lt (Nat.lt_of_lt_of_le E_oa.lt (Nat.le_of_eq g2.symm))
  have Zs2 : n0 ≤ h2.size := Nat.le_trans Z0 E2.1
  have K2 : Keep h0 h2 [oa] := (Keep.refl h0 [oa]).ext E2
  refine Goes.by st2 ?_
  have E_oa : Exa Z h2 oa "com/example/javelot/javelot/classfile/ByteWriter" := E_oa.ext E2
  have F_oa_bytes : Fld Z h2 oa "com/example/javelot/javelot/classfile/ByteWriter" "bytes" "[B" .null := F_oa_bytes.ext E2
  have F_oa_size : Fld Z h2 oa "com/example/javelot/javelot/classfile/ByteWriter" "size" "I" (.int (0 : Int32)) := F_oa_size.ext E2
  have A_b2 : AI Z h2 b2 .byte 256 (fun _ => (0 : Int32)) := A2
  show Goes p.tables e below (T2.setTop (mkF m 10 #[.val (.ref oa)] [(.ref b2), (.ref oa)])) _
  obtain ⟨T3, h3, X3, e3, W3, st3⟩ := putF X2 hx hZ hown (host := "") (Or.inl (hw _ (List.mem_of_getElem? (i := 11) rfl))) Via.refl e2 F_oa_bytes E_oa (Or.inl (hw _ (List.mem_of_getElem? (i := 12) rfl))) (hw _ (List.mem_of_getElem? (i := 2) rfl)) (ty := (.array .byte)) (by decide) rfl rfl (g := (mkF m 10 #[.val (.ref oa)] [(.ref b2), (.ref oa)])) rfl rfl (hb hby d1_10)
  refine Goes.by st3 ?_
  have F_oa_bytes : Fld Z h3 oa "com/example/javelot/javelot/classfile/ByteWriter" "bytes" "[B" (.ref b2) := F_oa_bytes.same W3
  have N3 := Fr.snoc X3 N0 g_oa
  have Zs3 : n0 ≤ h3.size := Nat.le_trans Zs2 (Keep.of_wr W3).1
  have K3 : Keep h0 h3 [oa] := K2.wr W3 (Or.inl (List.mem_of_getElem? (i := 0) rfl))
  have E_oa : Exa Z h3 oa "com/example/javelot/javelot/classfile/ByteWriter" := E_oa.wr W3
  have F_oa_size : Fld Z h3 oa "com/example/javelot/javelot/classfile/ByteWriter" "size" "I" (.int (0 : Int32)) := F_oa_size.other W3 (Or.inr (slot_ne (Or.inl (hw _ (List.mem_of_getElem? (i := 23) rfl))) (Or.inl (hw _ (List.mem_of_getElem? (i := 12) rfl))) (by decide) (t := .int) (t' := (.array .byte)) (by decide) (by decide)))
  have A_b2 : AI Z h3 b2 .byte 256 (fun _ => (0 : Int32)) := A_b2.other W3 (Ne.symm ne_oa_b2)
  show Goes p.tables e below (T3.setTop (mkF m 13 #[.val (.ref oa)] [])) _
  obtain ⟨fs, hr, hrun, hended, hW, hsame⟩ := X3.leave (v := none) (fun _ => rfl)
  refine ⟨_, _, X3.returnOut hx Bd.returns (hb hby d1_13) hr, hrun, hended, _, _, rfl, ?_, ⟨_, rfl⟩, hW, hsame.mono (by decide) (by decide)⟩
  show Q1 Z oa h0 n0 _ T3.heap _
  rw [e3]
  exact ⟨b2, rfl, N3, K3, E_oa, F_oa_bytes, F_oa_size, A_b2, sz_b2, ne_oa_b2⟩
theorem d4_0 : decode prog_1_method_10_code 0 = .ok (.aload_n 0, 1) := by decide +kernel
theorem d4_1 : decode prog_1_method_10_code 1 = .ok (.getfield 17, 3) := by decide +kernel
theorem d4_4 : decode prog_1_method_10_code 4 = .ok (.iload_n 1, 1) := by decide +kernel
theorem d4_5 : decode prog_1_method_10_code 5 = .ok (.iadd, 1) := by decide +kernel
theorem d4_6 : decode prog_1_method_10_code 6 = .ok (.aload_n 0, 1) := by decide +kernel
theorem d4_7 : decode prog_1_method_10_code 7 = .ok (.getfield 7, 3) := by decide +kernel
theorem d4_10 : decode prog_1_method_10_code 10 = .ok (.arraylength, 1) := by decide +kernel
theorem d4_11 : decode prog_1_method_10_code 11 = .ok (.if_icmp .le 30, 3) := by decide +kernel
theorem d4_41 : decode prog_1_method_10_code 41 = .ok (.return_, 1) := by decide +kernel
theorem ef4s0 (m : MethodId) (oa : Addr) (pn : Int32) : entryFrame m #[(.ref oa), (.int pn)] 2 = mkF m 0 #[.val (.ref oa), .val (.int pn)] [] := by first | (simp [entryFrame, mkF, argsToLocals, Value.category]; done) | rfl
def Q4s0 (Z : State) (oa : Addr) (pn : Int32) (ob : Addr) (pg : Nat → Int32) (h0 : Heap) (n0 : Nat) (v : Option Value) (h : Heap) (L : List Loc) : Prop := v = none ∧ Fr n0 L ∧ h = h0
set_option maxRecDepth 65536 in
set_option maxHeartbeats 40000000 in
theorem rm4s0 (l : Launch) (Z : State) (a0 : Array Value) (hw : ∀ d ∈ tables_1, d.before a0 Z = true) (ws : List Jvm.Cond) (oa : Addr) (pn : Int32) (ob : Addr) (pg : Nat → Int32) (h0 : Heap) (n0 : Nat) (Z0 : n0 ≤ h0.size) (F_oa_bytes : Fld Z h0 oa "com/example/javelot/javelot/classfile/ByteWriter" "bytes" "[B" (.ref ob)) (F_oa_size : Fld Z h0 oa "com/example/javelot/javelot/classfile/ByteWriter" "size" "I" (.int (0 : Int32))) (A_ob : AI Z h0 ob .byte 256 pg) (hpn : pn = (4 : Int32)) :
    MetFree l (⟨"com/example/javelot/javelot/classfile/ByteWriter", "ensureRoom", "(I)V"⟩ : MethodName) (head1 (Jvm.Cond.code (⟨"com/example/javelot/javelot/classfile/ByteWriter", "ensureRoom", "(I)V"⟩ : MethodName) prog_1_method_10_code 2 none :: ws) ({ frames := 0, cells := 0, slots := 0, locals := 0 } : Room)) (fun a U => a = #[(.ref oa), (.int pn)] ∧ Z.Warmed39 U.vm ∧ U.heap = h0) (fun _ _ _ _ _ => True) (fun _ U o U' => ∃ v L, o = .returned v ∧ Q4s0 Z oa pn ob pg h0 n0 v U'.heap L ∧ FrameEnd U o U' L ({ frames := 0, cells := 0, slots := 0, locals := 0 } : Room).cells ({ frames := 0, cells := 0, slots := 0, locals := 0 } : Room).slots) := by
  refine MetFree.of_bodySF (plainFor_of_name pn_0) hisR ?_
  intro p e s m args below meth c s₁ Bd hml0 hP hK
  obtain ⟨rfl, hZ, hh⟩ := hP
  have hx := Bd.exec
  have hby := Bd.bytes
  have hml : c.maxLocals = 2 := hml0
  have hown : s.vm.findClass "com/example/javelot/javelot/classfile/ByteWriter" = some m.cls := findClass_of_methodNamed Bd.named
  have hnm := (name_of_methodNamed Bd.named Bd.method).1
  have X0 : Stand p l e ({ frames := 0, cells := 0, slots := 0, locals := 0 } : Room) s m #[(.ref oa), (.int pn)] below meth c s₁ [] 0 0 := Stand.of_body Bd
  have e0 : s₁.heap = h0 := by rw [← hh, Bd.state]; rfl
  have N0 := Fr.nil n0
  refine Goes.by (fun _ k => castTop (ef4s0 m oa pn) k) ?_
  show Goes p.tables e below (s₁.setTop (mkF m 0 #[.val (.ref oa), .val (.int pn)] [])) _
  refine Goes.by (fun _ k => XS.aloadN X0.here hx rfl (hb hby d4_0) rfl rfl k) ?_
  show Goes p.tables e below (s₁.setTop (mkF m 1 #[.val (.ref oa), .val (.int pn)] [(.ref oa)])) _
  obtain ⟨T1, X1, e1, st1⟩ := getF X0 hx hZ hown (host := "") (Or.inl (hw _ (List.mem_of_getElem? (i := 22) rfl))) Via.refl e0 F_oa_size (g := (mkF m 1 #[.val (.ref oa), .val (.int pn)] [(.ref oa)])) rfl rfl (hb hby d4_1)
  refine Goes.by st1 ?_
  show Goes p.tables e below (T1.setTop (mkF m 4 #[.val (.ref oa), .val (.int pn)] [(.int (0 : Int32))])) _
  refine Goes.by (fun _ k => XS.iloadN X1.here hx rfl (hb hby d4_4) rfl k) ?_
  show Goes p.tables e below (T1.setTop (mkF m 5 #[.val (.ref oa), .val (.int pn)] [(.int pn), (.int (0 : Int32))])) _
  refine Goes.by (fun _ k => XS.iadd X1.here hx rfl (hb hby d4_5) rfl k) ?_
  show Goes p.tables e below (T1.setTop (mkF m 6 #[.val (.ref oa), .val (.int pn)] [(.int ((0 : Int32) + pn))])) _
  refine Goes.by (fun _ k => XS.aloadN X1.here hx rfl (hb hby d4_6) rfl rfl k) ?_
  show Goes p.tables e below (T1.setTop (mkF m 7 #[.val (.ref oa), .val (.int pn)] [(.ref oa), (.int ((0 : Int32) + pn))])) _
  obtain ⟨T2, X2, e2, st2⟩ := getF X1 hx hZ hown (host := "") (Or.inl (hw _ (List.mem_of_getElem? (i := 11) rfl))) Via.refl e1 F_oa_bytes (g := (mkF m 7 #[.val (.ref oa), .val (.int pn)] [(.ref oa), (.int ((0 : Int32) + pn))])) rfl rfl (hb hby d4_7)
  refine Goes.by st2 ?_
  show Goes p.tables e below (T2.setTop (mkF m 10 #[.val (.ref oa), .val (.int pn)] [(.ref ob), (.int ((0 : Int32) + pn))])) _
  refine Goes.by (fun _ k => alen (z := (256 : Int32)) (fr := (mkF m 10 #[.val (.ref oa), .val (.int pn)] [(.ref ob), (.int ((0 : Int32) + pn))])) X2 hx hZ e2 A_ob (by decide) rfl rfl (hb hby d4_10) k) ?_
  show Goes p.tables e below (T2.setTop (mkF m 11 #[.val (.ref oa), .val (.int pn)] [(.int (256 : Int32)), (.int ((0 : Int32) + pn))])) _
  refine Goes.by (fun _ k => XS.icmpYes X2.here hx rfl (pc0 := 11) (pc' := 41) rfl (hb hby d4_11) rfl (flt (by rw [hpn]; decide : ¬ ((256 : Int32) < ((0 : Int32) + pn)))).2.2.2 (by decide) (by decide) k) ?_
  show Goes p.tables e below (T2.setTop (mkF m 41 #[.val (.ref oa), .val (.int pn)] [])) _
  obtain ⟨fs, hr, hrun, hended, hW, hsame⟩ := X2.leave (v := none) (fun _ => rfl)
  refine ⟨_, _, X2.returnOut hx Bd.returns (hb hby d4_41) hr, hrun, hended, _, _, rfl, ?_, ⟨_, rfl⟩, hW, hsame.mono (by decide) (by decide)⟩
  show Q4s0 Z oa pn ob pg h0 n0 _ T2.heap _
  rw [e2]
  exact ⟨rfl, N0, rfl⟩
theorem d3_0 : decode prog_1_method_4_code 0 = .ok (.aload_n 0, 1) := by decide +kernel
theorem d3_1 : decode prog_1_method_4_code 1 = .ok (.iconst 4, 1) := by decide +kernel
theorem d3_2 : decode prog_1_method_4_code 2 = .ok (.invokevirtual 13, 3) := by decide +kernel
theorem pd_0 : parseMethodDescriptor "(I)V" = some ⟨[.int], none⟩ := by decide +kernel
theorem d3_5 : decode prog_1_method_4_code 5 = .ok (.aload_n 0, 1) := by decide +kernel
theorem d3_6 : decode prog_1_method_4_code 6 = .ok (.getfield 7, 3) := by decide +kernel
theorem d3_9 : decode prog_1_method_4_code 9 = .ok (.aload_n 0, 1) := by decide +kernel
theorem d3_10 : decode prog_1_method_4_code 10 = .ok (.dup, 1) := by decide +kernel
theorem d3_11 : decode prog_1_method_4_code 11 = .ok (.getfield 17, 3) := by decide +kernel
theorem d3_14 : decode prog_1_method_4_code 14 = .ok (.dup_x1, 1) := by decide +kernel
theorem d3_15 : decode prog_1_method_4_code 15 = .ok (.iconst 1, 1) := by decide +kernel
theorem d3_16 : decode prog_1_method_4_code 16 = .ok (.iadd, 1) := by decide +kernel
theorem d3_17 : decode prog_1_method_4_code 17 = .ok (.putfield 17, 3) := by decide +kernel
theorem d3_20 : decode prog_1_method_4_code 20 = .ok (.iload_n 1, 1) := by decide +kernel
theorem d3_21 : decode prog_1_method_4_code 21 = .ok (.bipush 24, 2) := by decide +kernel
theorem d3_23 : decode prog_1_method_4_code 23 = .ok (.iushr, 1) := by decide +kernel
theorem d3_24 : decode prog_1_method_4_code 24 = .ok (.i2b, 1) := by decide +kernel
theorem d3_25 : decode prog_1_method_4_code 25 = .ok (.bastore, 1) := by decide +kernel
theorem d3_26 : decode prog_1_method_4_code 26 = .ok (.aload_n 0, 1) := by decide +kernel
theorem d3_27 : decode prog_1_method_4_code 27 = .ok (.getfield 7, 3) := by decide +kernel
theorem d3_30 : decode prog_1_method_4_code 30 = .ok (.aload_n 0, 1) := by decide +kernel
theorem d3_31 : decode prog_1_method_4_code 31 = .ok (.dup, 1) := by decide +kernel
theorem d3_32 : decode prog_1_method_4_code 32 = .ok (.getfield 17, 3) := by decide +kernel
theorem d3_35 : decode prog_1_method_4_code 35 = .ok (.dup_x1, 1) := by decide +kernel
theorem d3_36 : decode prog_1_method_4_code 36 = .ok (.iconst 1, 1) := by decide +kernel
theorem d3_37 : decode prog_1_method_4_code 37 = .ok (.iadd, 1) := by decide +kernel
theorem d3_38 : decode prog_1_method_4_code 38 = .ok (.putfield 17, 3) := by decide +kernel
theorem d3_41 : decode prog_1_method_4_code 41 = .ok (.iload_n 1, 1) := by decide +kernel
theorem d3_42 : decode prog_1_method_4_code 42 = .ok (.bipush 16, 2) := by decide +kernel
theorem d3_44 : decode prog_1_method_4_code 44 = .ok (.iushr, 1) := by decide +kernel
theorem d3_45 : decode prog_1_method_4_code 45 = .ok (.i2b, 1) := by decide +kernel
theorem d3_46 : decode prog_1_method_4_code 46 = .ok (.bastore, 1) := by decide +kernel
theorem d3_47 : decode prog_1_method_4_code 47 = .ok (.aload_n 0, 1) := by decide +kernel
theorem d3_48 : decode prog_1_method_4_code 48 = .ok (.getfield 7, 3) := by decide +kernel
theorem d3_51 : decode prog_1_method_4_code 51 = .ok (.aload_n 0, 1) := by decide +kernel
theorem d3_52 : decode prog_1_method_4_code 52 = .ok (.dup, 1) := by decide +kernel
theorem d3_53 : decode prog_1_method_4_code 53 = .ok (.getfield 17, 3) := by decide +kernel
theorem d3_56 : decode prog_1_method_4_code 56 = .ok (.dup_x1, 1) := by decide +kernel
theorem d3_57 : decode prog_1_method_4_code 57 = .ok (.iconst 1, 1) := by decide +kernel
theorem d3_58 : decode prog_1_method_4_code 58 = .ok (.iadd, 1) := by decide +kernel
theorem d3_59 : decode prog_1_method_4_code 59 = .ok (.putfield 17, 3) := by decide +kernel
theorem d3_62 : decode prog_1_method_4_code 62 = .ok (.iload_n 1, 1) := by decide +kernel
theorem d3_63 : decode prog_1_method_4_code 63 = .ok (.bipush 8, 2) := by decide +kernel
theorem d3_65 : decode prog_1_method_4_code 65 = .ok (.iushr, 1) := by decide +kernel
theorem d3_66 : decode prog_1_method_4_code 66 = .ok (.i2b, 1) := by decide +kernel
theorem d3_67 : decode prog_1_method_4_code 67 = .ok (.bastore, 1) := by decide +kernel
theorem d3_68 : decode prog_1_method_4_code 68 = .ok (.aload_n 0, 1) := by decide +kernel
theorem d3_69 : decode prog_1_method_4_code 69 = .ok (.getfield 7, 3) := by decide +kernel
theorem d3_72 : decode prog_1_method_4_code 72 = .ok (.aload_n 0, 1) := by decide +kernel
theorem d3_73 : decode prog_1_method_4_code 73 = .ok (.dup, 1) := by decide +kernel
theorem d3_74 : decode prog_1_method_4_code 74 = .ok (.getfield 17, 3) := by decide +kernel
theorem d3_77 : decode prog_1_method_4_code 77 = .ok (.dup_x1, 1) := by decide +kernel
theorem d3_78 : decode prog_1_method_4_code 78 = .ok (.iconst 1, 1) := by decide +kernel
theorem d3_79 : decode prog_1_method_4_code 79 = .ok (.iadd, 1) := by decide +kernel
theorem d3_80 : decode prog_1_method_4_code 80 = .ok (.putfield 17, 3) := by decide +kernel
theorem d3_83 : decode prog_1_method_4_code 83 = .ok (.iload_n 1, 1) := by decide +kernel
theorem d3_84 : decode prog_1_method_4_code 84 = .ok (.i2b, 1) := by decide +kernel
theorem d3_85 : decode prog_1_method_4_code 85 = .ok (.bastore, 1) := by decide +kernel
theorem d3_86 : decode prog_1_method_4_code 86 = .ok (.return_, 1) := by decide +kernel
theorem ef3s0 (m : MethodId) (oa : Addr) (pv : Int32) : entryFrame m #[(.ref oa), (.int pv)] 2 = mkF m 0 #[.val (.ref oa), .val (.int pv)] [] := by first | (simp [entryFrame, mkF, argsToLocals, Value.category]; done) | rfl
def Q3s0 (Z : State) (oa : Addr) (pv : Int32) (ob : Addr) (pg : Nat → Int32) (h0 : Heap) (n0 : Nat) (v : Option Value) (h : Heap) (L : List Loc) : Prop := v = none ∧ Fr n0 L ∧ Keep h0 h [oa, ob] ∧ Exa Z h oa "com/example/javelot/javelot/classfile/ByteWriter" ∧ Fld Z h oa "com/example/javelot/javelot/classfile/ByteWriter" "bytes" "[B" (.ref ob) ∧ Fld Z h oa "com/example/javelot/javelot/classfile/ByteWriter" "size" "I" (.int (4 : Int32)) ∧ AI Z h ob .byte 256 (up (up (up (up pg 0 ((((pv.toUInt32 >>> ((24 : Int32) &&& 31).toUInt32).toInt32).toInt8.toInt32).toInt8.toInt32)) 1 ((((pv.toUInt32 >>> ((16 : Int32) &&& 31).toUInt32).toInt32).toInt8.toInt32).toInt8.toInt32)) 2 ((((pv.toUInt32 >>> ((8 : Int32) &&& 31).toUInt32).toInt32).toInt8.toInt32).toInt8.toInt32)) 3 ((pv.toInt8.toInt32).toInt8.toInt32))
set_option maxRecDepth 65536 in
set_option maxHeartbeats 40000000 in
theorem rm3s0 (l : Launch) (Z : State) (a0 : Array Value) (hw : ∀ d ∈ tables_1, d.before a0 Z = true) (ws : List Jvm.Cond) (oa : Addr) (pv : Int32) (ob : Addr) (pg : Nat → Int32) (h0 : Heap) (n0 : Nat) (Z0 : n0 ≤ h0.size) (E_oa : Exa Z h0 oa "com/example/javelot/javelot/classfile/ByteWriter") (F_oa_bytes : Fld Z h0 oa "com/example/javelot/javelot/classfile/ByteWriter" "bytes" "[B" (.ref ob)) (F_oa_size : Fld Z h0 oa "com/example/javelot/javelot/classfile/ByteWriter" "size" "I" (.int (0 : Int32))) (A_ob : AI Z h0 ob .byte 256 pg) (ne_oa_ob : oa ≠ ob) (g_oa : n0 ≤ oa) (g_ob : n0 ≤ ob) :
    MetFree l (⟨"com/example/javelot/javelot/classfile/ByteWriter", "u4", "(I)V"⟩ : MethodName) (head1 (Jvm.Cond.code (⟨"com/example/javelot/javelot/classfile/ByteWriter", "u4", "(I)V"⟩ : MethodName) prog_1_method_4_code 2 none :: ws) ({ frames := 1, cells := 0, slots := 0, locals := 13 } : Room)) (fun a U => a = #[(.ref oa), (.int pv)] ∧ Z.Warmed39 U.vm ∧ U.heap = h0) (fun _ _ _ _ _ => True) (fun _ U o U' => ∃ v L, o = .returned v ∧ Q3s0 Z oa pv ob pg h0 n0 v U'.heap L ∧ FrameEnd U o U' L ({ frames := 1, cells := 0, slots := 0, locals := 13 } : Room).cells ({ frames := 1, cells := 0, slots := 0, locals := 13 } : Room).slots) := by
  refine MetFree.of_bodySF (plainFor_of_name pn_0) hisR ?_
  intro p e s m args below meth c s₁ Bd hml0 hP hK
  obtain ⟨rfl, hZ, hh⟩ := hP
  have hx := Bd.exec
  have hby := Bd.bytes
  have hml : c.maxLocals = 2 := hml0
  have hown : s.vm.findClass "com/example/javelot/javelot/classfile/ByteWriter" = some m.cls := findClass_of_methodNamed Bd.named
  have hnm := (name_of_methodNamed Bd.named Bd.method).1
  have X0 : Stand p l e ({ frames := 1, cells := 0, slots := 0, locals := 13 } : Room) s m #[(.ref oa), (.int pv)] below meth c s₁ [] 0 0 := Stand.of_body Bd
  have e0 : s₁.heap = h0 := by rw [← hh, Bd.state]; rfl
  have N0 := Fr.nil n0
  refine Goes.by (fun _ k => castTop (ef3s0 m oa pv) k) ?_
  show Goes p.tables e below (s₁.setTop (mkF m 0 #[.val (.ref oa), .val (.int pv)] [])) _
  refine Goes.by (fun _ k => XS.aloadN X0.here hx rfl (hb hby d3_0) rfl rfl k) ?_
  show Goes p.tables e below (s₁.setTop (mkF m 1 #[.val (.ref oa), .val (.int pv)] [(.ref oa)])) _
  refine Goes.by (fun _ k => XS.iconst X0.here hx rfl (hb hby d3_1) k) ?_
  show Goes p.tables e below (s₁.setTop (mkF m 2 #[.val (.ref oa), .val (.int pv)] [(.int (4 : Int32)), (.ref oa)])) _
  obtain ⟨cq1, q1, q1'⟩ := E_oa.cell
  obtain ⟨_, _, ⟨T1, L1, k1, n1⟩, -, X1, ⟨Lc1, hQ1, l1, y1, z1⟩, st1⟩ := X0.privateBack hx (y := (⟨"com/example/javelot/javelot/classfile/ByteWriter", "ensureRoom", "(I)V"⟩ : MethodName)) hown (mvT hZ (hw _ (List.mem_of_getElem? (i := 18) rfl))) (mvT hZ (hw _ (List.mem_of_getElem? (i := 19) rfl))) (selP hZ (hw _ (List.mem_of_getElem? (i := 2) rfl)) (hw _ (List.mem_of_getElem? (i := 20) rfl)) (hw _ (List.mem_of_getElem? (i := 19) rfl)) (by decide)) (Cond.privateMethod_at (mvP hZ (hw _ (List.mem_of_getElem? (i := 20) rfl)) (args := #[]))) (mvT hZ (hw _ (List.mem_of_getElem? (i := 21) rfl))) (by decide) (backOf (W := 0) (rm4s0 l Z a0 hw [] oa (4 : Int32) ob pg h0 n0 Z0 F_oa_bytes F_oa_size A_ob (rfl)) hZ (hw _ (List.mem_of_getElem? (i := 21) rfl)) (hw _ (List.mem_of_getElem? (i := 3) rfl)) (by decide) (by decide)) (g := (mkF m 2 #[.val (.ref oa), .val (.int pv)] [(.int (4 : Int32)), (.ref oa)])) rfl (by rw [hml]; rfl) (Steps.refl _) (a := oa) (by rw [e0]; exact q1) q1' (argsL := [(.int (4 : Int32))]) (rest := []) (lenOf pd_0 rfl) rfl (by show 2 * 0 + _ ≤ _; exact Nat.le_of_eq rfl) (hb hby d3_2) (fun _ _ => ⟨rfl, e0, (by decide : 0 + 0 ≤ _), (by decide : 0 + 0 ≤ _)⟩)
  dsimp only [Pt.U, Pt.locs, Pt.cells, Pt.slots] at X1 l1 y1 z1 st1 hQ1
  subst l1 y1 z1
  obtain ⟨rfl, N1q, e1⟩ := hQ1
  have N1 := Fr.app N0 N1q
  refine Goes.via st1 ?_
  show Goes p.tables e below (T1.setTop (mkF m 5 #[.val (.ref oa), .val (.int pv)] [])) _
  refine Goes.by (fun _ k => XS.aloadN X1.here hx rfl (hb hby d3_5) rfl rfl k) ?_
  show Goes p.tables e below (T1.setTop (mkF m 6 #[.val (.ref oa), .val (.int pv)] [(.ref oa)])) _
  obtain ⟨T2, X2, e2, st2⟩ := getF X1 hx hZ hown (host := "") (Or.inl (hw _ (List.mem_of_getElem? (i := 11) rfl))) Via.refl e1 F_oa_bytes (g := (mkF m 6 #[.val (.ref oa), .val (.int pv)] [(.ref oa)])) rfl rfl (hb hby d3_6)
  refine Goes.by st2 ?_
  show Goes p.tables e below (T2.setTop (mkF m 9 #[.val (.ref oa), .val (.int pv)] [(.ref ob)])) _
  refine Goes.by (fun _ k => XS.aloadN X2.here hx rfl (hb hby d3_9) rfl rfl k) ?_
  show Goes p.tables e below (T2.setTop (mkF m 10 #[.val (.ref oa), .val (.int pv)] [(.ref oa), (.ref ob)])) _
  refine Goes.by (fun _ k => XS.dup X2.here hx rfl (hb hby d3_10) rfl rfl k) ?_
  show Goes p.tables e below (T2.setTop (mkF m 11 #[.val (.ref oa), .val (.int pv)] [(.ref oa), (.ref oa), (.ref ob)])) _
  obtain ⟨T3, X3, e3, st3⟩ := getF X2 hx hZ hown (host := "") (Or.inl (hw _ (List.mem_of_getElem? (i := 22) rfl))) Via.refl e2 F_oa_size (g := (mkF m 11 #[.val (.ref oa), .val (.int pv)] [(.ref oa), (.ref oa), (.ref ob)])) rfl rfl (hb hby d3_11)
  refine Goes.by st3 ?_
  show Goes p.tables e below (T3.setTop (mkF m 14 #[.val (.ref oa), .val (.int pv)] [(.int (0 : Int32)), (.ref oa), (.ref ob)])) _
  refine Goes.by (fun _ k => XS.dupX1 X3.here hx rfl (hb hby d3_14) rfl rfl rfl k) ?_
  show Goes p.tables e below (T3.setTop (mkF m 15 #[.val (.ref oa), .val (.int pv)] [(.int (0 : Int32)), (.ref oa), (.int (0 : Int32)), (.ref ob)])) _
  refine Goes.by (fun _ k => XS.iconst X3.here hx rfl (hb hby d3_15) k) ?_
  show Goes p.tables e below (T3.setTop (mkF m 16 #[.val (.ref oa), .val (.int pv)] [(.int (1 : Int32)), (.int (0 : Int32)), (.ref oa), (.int (0 : Int32)), (.ref ob)])) _
  refine Goes.by (fun _ k => XS.iadd X3.here hx rfl (hb hby d3_16) rfl k) ?_
  show Goes p.tables e below (T3.setTop (mkF m 17 #[.val (.ref oa), .val (.int pv)] [(.int (1 : Int32)), (.ref oa), (.int (0 : Int32)), (.ref ob)])) _
  obtain ⟨T4, h4, X4, e4, W4, st4⟩ := putF X3 hx hZ hown (host := "") (Or.inl (hw _ (List.mem_of_getElem? (i := 22) rfl))) Via.refl e3 F_oa_size E_oa (Or.inl (hw _ (List.mem_of_getElem? (i := 23) rfl))) (hw _ (List.mem_of_getElem? (i := 2) rfl)) (ty := .int) (by decide) rfl rfl (g := (mkF m 17 #[.val (.ref oa), .val (.int pv)] [(.int (1 : Int32)), (.ref oa), (.int (0 : Int32)), (.ref ob)])) rfl rfl (hb hby d3_17)
  refine Goes.by st4 ?_
  have F_oa_size : Fld Z h4 oa "com/example/javelot/javelot/classfile/ByteWriter" "size" "I" (.int (1 : Int32)) := F_oa_size.same W4
  have N4 := Fr.snoc X4 N1 g_oa
  have Zs4 : n0 ≤ h4.size := Nat.le_trans Z0 (Keep.of_wr W4).1
  have K4 : Keep h0 h4 [oa, ob] := (Keep.refl h0 [oa, ob]).wr W4 (Or.inl (List.mem_of_getElem? (i := 0) rfl))
  have E_oa : Exa Z h4 oa "com/example/javelot/javelot/classfile/ByteWriter" := E_oa.wr W4
  have F_oa_bytes : Fld Z h4 oa "com/example/javelot/javelot/classfile/ByteWriter" "bytes" "[B" (.ref ob) := F_oa_bytes.other W4 (Or.inr (slot_ne (Or.inl (hw _ (List.mem_of_getElem? (i := 12) rfl))) (Or.inl (hw _ (List.mem_of_getElem? (i := 23) rfl))) (by decide) (t := (.array .byte)) (t' := .int) (by decide) (by decide)))
  have A_ob : AI Z h4 ob .byte 256 pg := A_ob.other W4 (Ne.symm ne_oa_ob)
  show Goes p.tables e below (T4.setTop (mkF m 20 #[.val (.ref oa), .val (.int pv)] [(.int (0 : Int32)), (.ref ob)])) _
  refine Goes.by (fun _ k => XS.iloadN X4.here hx rfl (hb hby d3_20) rfl k) ?_
  show Goes p.tables e below (T4.setTop (mkF m 21 #[.val (.ref oa), .val (.int pv)] [(.int pv), (.int (0 : Int32)), (.ref ob)])) _
  refine Goes.by (fun _ k => XS.bipush X4.here hx rfl (hb hby d3_21) k) ?_
  show Goes p.tables e below (T4.setTop (mkF m 23 #[.val (.ref oa), .val (.int pv)] [(.int (24 : Int32)), (.int pv), (.int (0 : Int32)), (.ref ob)])) _
  refine Goes.by (fun _ k => XS.iushr X4.here hx rfl (hb hby d3_23) rfl k) ?_
  show Goes p.tables e below (T4.setTop (mkF m 24 #[.val (.ref oa), .val (.int pv)] [(.int ((pv.toUInt32 >>> ((24 : Int32) &&& 31).toUInt32).toInt32)), (.int (0 : Int32)), (.ref ob)])) _
  refine Goes.by (fun _ k => XS.i2b X4.here hx rfl (hb hby d3_24) rfl k) ?_
  show Goes p.tables e below (T4.setTop (mkF m 25 #[.val (.ref oa), .val (.int pv)] [(.int (((pv.toUInt32 >>> ((24 : Int32) &&& 31).toUInt32).toInt32).toInt8.toInt32)), (.int (0 : Int32)), (.ref ob)])) _
  obtain ⟨T5, h5, X5, e5, W5, A5, st5⟩ := stAB (fr := (mkF m 25 #[.val (.ref oa), .val (.int pv)] [(.int (((pv.toUInt32 >>> ((24 : Int32) &&& 31).toUInt32).toInt32).toInt8.toInt32)), (.int (0 : Int32)), (.ref ob)])) X4 hx hZ e4 A_ob (i := 0) (by decide) (by decide) rfl rfl (hb hby d3_25)
  refine Goes.by st5 ?_
  have A_ob : AI Z h5 ob .byte 256 (up pg 0 ((((pv.toUInt32 >>> ((24 : Int32) &&& 31).toUInt32).toInt32).toInt8.toInt32).toInt8.toInt32)) := A5
  have N5 := Fr.snoc X5 N4 g_ob
  have Zs5 : n0 ≤ h5.size := Nat.le_trans Zs4 (Keep.of_wr W5).1
  have K5 : Keep h0 h5 [oa, ob] := K4.wr W5 (Or.inl (List.mem_of_getElem? (i := 1) rfl))
  have E_oa : Exa Z h5 oa "com/example/javelot/javelot/classfile/ByteWriter" := E_oa.wr W5
  have F_oa_bytes : Fld Z h5 oa "com/example/javelot/javelot/classfile/ByteWriter" "bytes" "[B" (.ref ob) := F_oa_bytes.other W5 (Or.inl ne_oa_ob)
  have F_oa_size : Fld Z h5 oa "com/example/javelot/javelot/classfile/ByteWriter" "size" "I" (.int (1 : Int32)) := F_oa_size.other W5 (Or.inl ne_oa_ob)
  show Goes p.tables e below (T5.setTop (mkF m 26 #[.val (.ref oa), .val (.int pv)] [])) _
  refine Goes.by (fun _ k => XS.aloadN X5.here hx rfl (hb hby d3_26) rfl rfl k) ?_
  show Goes p.tables e below (T5.setTop (mkF m 27 #[.val (.ref oa), .val (.int pv)] [(.ref oa)])) _
  obtain ⟨T6, X6, e6, st6⟩ := getF X5 hx hZ hown (host := "") (Or.inl (hw _ (List.mem_of_getElem? (i := 11) rfl))) Via.refl e5 F_oa_bytes (g := (mkF m 27 #[.val (.ref oa), .val (.int pv)] [(.ref oa)])) rfl rfl (hb hby d3_27)
  refine Goes.by st6 ?_
  show Goes p.tables e below (T6.setTop (mkF m 30 #[.val (.ref oa), .val (.int pv)] [(.ref ob)])) _
  refine Goes.by (fun _ k => XS.aloadN X6.here hx rfl (hb hby d3_30) rfl rfl k) ?_
  show Goes p.tables e below (T6.setTop (mkF m 31 #[.val (.ref oa), .val (.int pv)] [(.ref oa), (.ref ob)])) _
  refine Goes.by (fun _ k => XS.dup X6.here hx rfl (hb hby d3_31) rfl rfl k) ?_
  show Goes p.tables e below (T6.setTop (mkF m 32 #[.val (.ref oa), .val (.int pv)] [(.ref oa), (.ref oa), (.ref ob)])) _
  obtain ⟨T7, X7, e7, st7⟩ := getF X6 hx hZ hown (host := "") (Or.inl (hw _ (List.mem_of_getElem? (i := 22) rfl))) Via.refl e6 F_oa_size (g := (mkF m 32 #[.val (.ref oa), .val (.int pv)] [(.ref oa), (.ref oa), (.ref ob)])) rfl rfl (hb hby d3_32)
  refine Goes.by st7 ?_
  show Goes p.tables e below (T7.setTop (mkF m 35 #[.val (.ref oa), .val (.int pv)] [(.int (1 : Int32)), (.ref oa), (.ref ob)])) _
  refine Goes.by (fun _ k => XS.dupX1 X7.here hx rfl (hb hby d3_35) rfl rfl rfl k) ?_
  show Goes p.tables e below (T7.setTop (mkF m 36 #[.val (.ref oa), .val (.int pv)] [(.int (1 : Int32)), (.ref oa), (.int (1 : Int32)), (.ref ob)])) _
  refine Goes.by (fun _ k => XS.iconst X7.here hx rfl (hb hby d3_36) k) ?_
  show Goes p.tables e below (T7.setTop (mkF m 37 #[.val (.ref oa), .val (.int pv)] [(.int (1 : Int32)), (.int (1 : Int32)), (.ref oa), (.int (1 : Int32)), (.ref ob)])) _
  refine Goes.by (fun _ k => XS.iadd X7.here hx rfl (hb hby d3_37) rfl k) ?_
  show Goes p.tables e below (T7.setTop (mkF m 38 #[.val (.ref oa), .val (.int pv)] [(.int (2 : Int32)), (.ref oa), (.int (1 : Int32)), (.ref ob)])) _
  obtain ⟨T8, h8, X8, e8, W8, st8⟩ := putF X7 hx hZ hown (host := "") (Or.inl (hw _ (List.mem_of_getElem? (i := 22) rfl))) Via.refl e7 F_oa_size E_oa (Or.inl (hw _ (List.mem_of_getElem? (i := 23) rfl))) (hw _ (List.mem_of_getElem? (i := 2) rfl)) (ty := .int) (by decide) rfl rfl (g := (mkF m 38 #[.val (.ref oa), .val (.int pv)] [(.int (2 : Int32)), (.ref oa), (.int (1 : Int32)), (.ref ob)])) rfl rfl (hb hby d3_38)
  refine Goes.by st8 ?_
  have F_oa_size : Fld Z h8 oa "com/example/javelot/javelot/classfile/ByteWriter" "size" "I" (.int (2 : Int32)) := F_oa_size.same W8
  have N8 := Fr.snoc X8 N5 g_oa
  have Zs8 : n0 ≤ h8.size := Nat.le_trans Zs5 (Keep.of_wr W8).1
  have K8 : Keep h0 h8 [oa, ob] := K5.wr W8 (Or.inl (List.mem_of_getElem? (i := 0) rfl))
  have E_oa : Exa Z h8 oa "com/example/javelot/javelot/classfile/ByteWriter" := E_oa.wr W8
  have F_oa_bytes : Fld Z h8 oa "com/example/javelot/javelot/classfile/ByteWriter" "bytes" "[B" (.ref ob) := F_oa_bytes.other W8 (Or.inr (slot_ne (Or.inl (hw _ (List.mem_of_getElem? (i := 12) rfl))) (Or.inl (hw _ (List.mem_of_getElem? (i := 23) rfl))) (by decide) (t := (.array .byte)) (t' := .int) (by decide) (by decide)))
  have A_ob : AI Z h8 ob .byte 256 (up pg 0 ((((pv.toUInt32 >>> ((24 : Int32) &&& 31).toUInt32).toInt32).toInt8.toInt32).toInt8.toInt32)) := A_ob.other W8 (Ne.symm ne_oa_ob)
  show Goes p.tables e below (T8.setTop (mkF m 41 #[.val (.ref oa), .val (.int pv)] [(.int (1 : Int32)), (.ref ob)])) _
  refine Goes.by (fun _ k => XS.iloadN X8.here hx rfl (hb hby d3_41) rfl k) ?_
  show Goes p.tables e below (T8.setTop (mkF m 42 #[.val (.ref oa), .val (.int pv)] [(.int pv), (.int (1 : Int32)), (.ref ob)])) _
  refine Goes.by (fun _ k => XS.bipush X8.here hx rfl (hb hby d3_42) k) ?_
  show Goes p.tables e below (T8.setTop (mkF m 44 #[.val (.ref oa), .val (.int pv)] [(.int (16 : Int32)), (.int pv), (.int (1 : Int32)), (.ref ob)])) _
  refine Goes.by (fun _ k => XS.iushr X8.here hx rfl (hb hby d3_44) rfl k) ?_
  show Goes p.tables e below (T8.setTop (mkF m 45 #[.val (.ref oa), .val (.int pv)] [(.int ((pv.toUInt32 >>> ((16 : Int32) &&& 31).toUInt32).toInt32)), (.int (1 : Int32)), (.ref ob)])) _
  refine Goes.by (fun _ k => XS.i2b X8.here hx rfl (hb hby d3_45) rfl k) ?_
  show Goes p.tables e below (T8.setTop (mkF m 46 #[.val (.ref oa), .val (.int pv)] [(.int (((pv.toUInt32 >>> ((16 : Int32) &&& 31).toUInt32).toInt32).toInt8.toInt32)), (.int (1 : Int32)), (.ref ob)])) _
  obtain ⟨T9, h9, X9, e9, W9, A9, st9⟩ := stAB (fr := (mkF m 46 #[.val (.ref oa), .val (.int pv)] [(.int (((pv.toUInt32 >>> ((16 : Int32) &&& 31).toUInt32).toInt32).toInt8.toInt32)), (.int (1 : Int32)), (.ref ob)])) X8 hx hZ e8 A_ob (i := 1) (by decide) (by decide) rfl rfl (hb hby d3_46)
  refine Goes.by st9 ?_
  have A_ob : AI Z h9 ob .byte 256 (up (up pg 0 ((((pv.toUInt32 >>> ((24 : Int32) &&& 31).toUInt32).toInt32).toInt8.toInt32).toInt8.toInt32)) 1 ((((pv.toUInt32 >>> ((16 : Int32) &&& 31).toUInt32).toInt32).toInt8.toInt32).toInt8.toInt32)) := A9
  have N9 := Fr.snoc X9 N8 g_ob
  have Zs9 : n0 ≤ h9.size := Nat.le_trans Zs8 (Keep.of_wr W9).1
  have K9 : Keep h0 h9 [oa, ob] := K8.wr W9 (Or.inl (List.mem_of_getElem? (i := 1) rfl))
  have E_oa : Exa Z h9 oa "com/example/javelot/javelot/classfile/ByteWriter" := E_oa.wr W9
  have F_oa_bytes : Fld Z h9 oa "com/example/javelot/javelot/classfile/ByteWriter" "bytes" "[B" (.ref ob) := F_oa_bytes.other W9 (Or.inl ne_oa_ob)
  have F_oa_size : Fld Z h9 oa "com/example/javelot/javelot/classfile/ByteWriter" "size" "I" (.int (2 : Int32)) := F_oa_size.other W9 (Or.inl ne_oa_ob)
  show Goes p.tables e below (T9.setTop (mkF m 47 #[.val (.ref oa), .val (.int pv)] [])) _
  refine Goes.by (fun _ k => XS.aloadN X9.here hx rfl (hb hby d3_47) rfl rfl k) ?_
  show Goes p.tables e below (T9.setTop (mkF m 48 #[.val (.ref oa), .val (.int pv)] [(.ref oa)])) _
  obtain ⟨T10, X10, e10, st10⟩ := getF X9 hx hZ hown (host := "") (Or.inl (hw _ (List.mem_of_getElem? (i := 11) rfl))) Via.refl e9 F_oa_bytes (g := (mkF m 48 #[.val (.ref oa), .val (.int pv)] [(.ref oa)])) rfl rfl (hb hby d3_48)
  refine Goes.by st10 ?_
  show Goes p.tables e below (T10.setTop (mkF m 51 #[.val (.ref oa), .val (.int pv)] [(.ref ob)])) _
  refine Goes.by (fun _ k => XS.aloadN X10.here hx rfl (hb hby d3_51) rfl rfl k) ?_
  show Goes p.tables e below (T10.setTop (mkF m 52 #[.val (.ref oa), .val (.int pv)] [(.ref oa), (.ref ob)])) _
  refine Goes.by (fun _ k => XS.dup X10.here hx rfl (hb hby d3_52) rfl rfl k) ?_
  show Goes p.tables e below (T10.setTop (mkF m 53 #[.val (.ref oa), .val (.int pv)] [(.ref oa), (.ref oa), (.ref ob)])) _
  obtain ⟨T11, X11, e11, st11⟩ := getF X10 hx hZ hown (host := "") (Or.inl (hw _ (List.mem_of_getElem? (i := 22) rfl))) Via.refl e10 F_oa_size (g := (mkF m 53 #[.val (.ref oa), .val (.int pv)] [(.ref oa), (.ref oa), (.ref ob)])) rfl rfl (hb hby d3_53)
  refine Goes.by st11 ?_
  show Goes p.tables e below (T11.setTop (mkF m 56 #[.val (.ref oa), .val (.int pv)] [(.int (2 : Int32)), (.ref oa), (.ref ob)])) _
  refine Goes.by (fun _ k => XS.dupX1 X11.here hx rfl (hb hby d3_56) rfl rfl rfl k) ?_
  show Goes p.tables e below (T11.setTop (mkF m 57 #[.val (.ref oa), .val (.int pv)] [(.int (2 : Int32)), (.ref oa), (.int (2 : Int32)), (.ref ob)])) _
  refine Goes.by (fun _ k => XS.iconst X11.here hx rfl (hb hby d3_57) k) ?_
  show Goes p.tables e below (T11.setTop (mkF m 58 #[.val (.ref oa), .val (.int pv)] [(.int (1 : Int32)), (.int (2 : Int32)), (.ref oa), (.int (2 : Int32)), (.ref ob)])) _
  refine Goes.by (fun _ k => XS.iadd X11.here hx rfl (hb hby d3_58) rfl k) ?_
  show Goes p.tables e below (T11.setTop (mkF m 59 #[.val (.ref oa), .val (.int pv)] [(.int (3 : Int32)), (.ref oa), (.int (2 : Int32)), (.ref ob)])) _
  obtain ⟨T12, h12, X12, e12, W12, st12⟩ := putF X11 hx hZ hown (host := "") (Or.inl (hw _ (List.mem_of_getElem? (i := 22) rfl))) Via.refl e11 F_oa_size E_oa (Or.inl (hw _ (List.mem_of_getElem? (i := 23) rfl))) (hw _ (List.mem_of_getElem? (i := 2) rfl)) (ty := .int) (by decide) rfl rfl (g := (mkF m 59 #[.val (.ref oa), .val (.int pv)] [(.int (3 : Int32)), (.ref oa), (.int (2 : Int32)), (.ref ob)])) rfl rfl (hb hby d3_59)
  refine Goes.by st12 ?_
  have F_oa_size : Fld Z h12 oa "com/example/javelot/javelot/classfile/ByteWriter" "size" "I" (.int (3 : Int32)) := F_oa_size.same W12
  have N12 := Fr.snoc X12 N9 g_oa
  have Zs12 : n0 ≤ h12.size := Nat.le_trans Zs9 (Keep.of_wr W12).1
  have K12 : Keep h0 h12 [oa, ob] := K9.wr W12 (Or.inl (List.mem_of_getElem? (i := 0) rfl))
  have E_oa : Exa Z h12 oa "com/example/javelot/javelot/classfile/ByteWriter" := E_oa.wr W12
  have F_oa_bytes : Fld Z h12 oa "com/example/javelot/javelot/classfile/ByteWriter" "bytes" "[B" (.ref ob) := F_oa_bytes.other W12 (Or.inr (slot_ne (Or.inl (hw _ (List.mem_of_getElem? (i := 12) rfl))) (Or.inl (hw _ (List.mem_of_getElem? (i := 23) rfl))) (by decide) (t := (.array .byte)) (t' := .int) (by decide) (by decide)))
  have A_ob : AI Z h12 ob .byte 256 (up (up pg 0 ((((pv.toUInt32 >>> ((24 : Int32) &&& 31).toUInt32).toInt32).toInt8.toInt32).toInt8.toInt32)) 1 ((((pv.toUInt32 >>> ((16 : Int32) &&& 31).toUInt32).toInt32).toInt8.toInt32).toInt8.toInt32)) := A_ob.other W12 (Ne.symm ne_oa_ob)
  show Goes p.tables e below (T12.setTop (mkF m 62 #[.val (.ref oa), .val (.int pv)] [(.int (2 : Int32)), (.ref ob)])) _
  refine Goes.by (fun _ k => XS.iloadN X12.here hx rfl (hb hby d3_62) rfl k) ?_
  show Goes p.tables e below (T12.setTop (mkF m 63 #[.val (.ref oa), .val (.int pv)] [(.int pv), (.int (2 : Int32)), (.ref ob)])) _
  refine Goes.by (fun _ k => XS.bipush X12.here hx rfl (hb hby d3_63) k) ?_
  show Goes p.tables e below (T12.setTop (mkF m 65 #[.val (.ref oa), .val (.int pv)] [(.int (8 : Int32)), (.int pv), (.int (2 : Int32)), (.ref ob)])) _
  refine Goes.by (fun _ k => XS.iushr X12.here hx rfl (hb hby d3_65) rfl k) ?_
  show Goes p.tables e below (T12.setTop (mkF m 66 #[.val (.ref oa), .val (.int pv)] [(.int ((pv.toUInt32 >>> ((8 : Int32) &&& 31).toUInt32).toInt32)), (.int (2 : Int32)), (.ref ob)])) _
  refine Goes.by (fun _ k => XS.i2b X12.here hx rfl (hb hby d3_66) rfl k) ?_
  show Goes p.tables e below (T12.setTop (mkF m 67 #[.val (.ref oa), .val (.int pv)] [(.int (((pv.toUInt32 >>> ((8 : Int32) &&& 31).toUInt32).toInt32).toInt8.toInt32)), (.int (2 : Int32)), (.ref ob)])) _
  obtain ⟨T13, h13, X13, e13, W13, A13, st13⟩ := stAB (fr := (mkF m 67 #[.val (.ref oa), .val (.int pv)] [(.int (((pv.toUInt32 >>> ((8 : Int32) &&& 31).toUInt32).toInt32).toInt8.toInt32)), (.int (2 : Int32)), (.ref ob)])) X12 hx hZ e12 A_ob (i := 2) (by decide) (by decide) rfl rfl (hb hby d3_67)
  refine Goes.by st13 ?_
  have A_ob : AI Z h13 ob .byte 256 (up (up (up pg 0 ((((pv.toUInt32 >>> ((24 : Int32) &&& 31).toUInt32).toInt32).toInt8.toInt32).toInt8.toInt32)) 1 ((((pv.toUInt32 >>> ((16 : Int32) &&& 31).toUInt32).toInt32).toInt8.toInt32).toInt8.toInt32)) 2 ((((pv.toUInt32 >>> ((8 : Int32) &&& 31).toUInt32).toInt32).toInt8.toInt32).toInt8.toInt32)) := A13
  have N13 := Fr.snoc X13 N12 g_ob
  have Zs13 : n0 ≤ h13.size := Nat.le_trans Zs12 (Keep.of_wr W13).1
  have K13 : Keep h0 h13 [oa, ob] := K12.wr W13 (Or.inl (List.mem_of_getElem? (i := 1) rfl))
  have E_oa : Exa Z h13 oa "com/example/javelot/javelot/classfile/ByteWriter" := E_oa.wr W13
  have F_oa_bytes : Fld Z h13 oa "com/example/javelot/javelot/classfile/ByteWriter" "bytes" "[B" (.ref ob) := F_oa_bytes.other W13 (Or.inl ne_oa_ob)
  have F_oa_size : Fld Z h13 oa "com/example/javelot/javelot/classfile/ByteWriter" "size" "I" (.int (3 : Int32)) := F_oa_size.other W13 (Or.inl ne_oa_ob)
  show Goes p.tables e below (T13.setTop (mkF m 68 #[.val (.ref oa), .val (.int pv)] [])) _
  refine Goes.by (fun _ k => XS.aloadN X13.here hx rfl (hb hby d3_68) rfl rfl k) ?_
  show Goes p.tables e below (T13.setTop (mkF m 69 #[.val (.ref oa), .val (.int pv)] [(.ref oa)])) _
  obtain ⟨T14, X14, e14, st14⟩ := getF X13 hx hZ hown (host := "") (Or.inl (hw _ (List.mem_of_getElem? (i := 11) rfl))) Via.refl e13 F_oa_bytes (g := (mkF m 69 #[.val (.ref oa), .val (.int pv)] [(.ref oa)])) rfl rfl (hb hby d3_69)
  refine Goes.by st14 ?_
  show Goes p.tables e below (T14.setTop (mkF m 72 #[.val (.ref oa), .val (.int pv)] [(.ref ob)])) _
  refine Goes.by (fun _ k => XS.aloadN X14.here hx rfl (hb hby d3_72) rfl rfl k) ?_
  show Goes p.tables e below (T14.setTop (mkF m 73 #[.val (.ref oa), .val (.int pv)] [(.ref oa), (.ref ob)])) _
  refine Goes.by (fun _ k => XS.dup X14.here hx rfl (hb hby d3_73) rfl rfl k) ?_
  show Goes p.tables e below (T14.setTop (mkF m 74 #[.val (.ref oa), .val (.int pv)] [(.ref oa), (.ref oa), (.ref ob)])) _
  obtain ⟨T15, X15, e15, st15⟩ := getF X14 hx hZ hown (host := "") (Or.inl (hw _ (List.mem_of_getElem? (i := 22) rfl))) Via.refl e14 F_oa_size (g := (mkF m 74 #[.val (.ref oa), .val (.int pv)] [(.ref oa), (.ref oa), (.ref ob)])) rfl rfl (hb hby d3_74)
  refine Goes.by st15 ?_
  show Goes p.tables e below (T15.setTop (mkF m 77 #[.val (.ref oa), .val (.int pv)] [(.int (3 : Int32)), (.ref oa), (.ref ob)])) _
  refine Goes.by (fun _ k => XS.dupX1 X15.here hx rfl (hb hby d3_77) rfl rfl rfl k) ?_
  show Goes p.tables e below (T15.setTop (mkF m 78 #[.val (.ref oa), .val (.int pv)] [(.int (3 : Int32)), (.ref oa), (.int (3 : Int32)), (.ref ob)])) _
  refine Goes.by (fun _ k => XS.iconst X15.here hx rfl (hb hby d3_78) k) ?_
  show Goes p.tables e below (T15.setTop (mkF m 79 #[.val (.ref oa), .val (.int pv)] [(.int (1 : Int32)), (.int (3 : Int32)), (.ref oa), (.int (3 : Int32)), (.ref ob)])) _
  refine Goes.by (fun _ k => XS.iadd X15.here hx rfl (hb hby d3_79) rfl k) ?_
  show Goes p.tables e below (T15.setTop (mkF m 80 #[.val (.ref oa), .val (.int pv)] [(.int (4 : Int32)), (.ref oa), (.int (3 : Int32)), (.ref ob)])) _
  obtain ⟨T16, h16, X16, e16, W16, st16⟩ := putF X15 hx hZ hown (host := "") (Or.inl (hw _ (List.mem_of_getElem? (i := 22) rfl))) Via.refl e15 F_oa_size E_oa (Or.inl (hw _ (List.mem_of_getElem? (i := 23) rfl))) (hw _ (List.mem_of_getElem? (i := 2) rfl)) (ty := .int) (by decide) rfl rfl (g := (mkF m 80 #[.val (.ref oa), .val (.int pv)] [(.int (4 : Int32)), (.ref oa), (.int (3 : Int32)), (.ref ob)])) rfl rfl (hb hby d3_80)
  refine Goes.by st16 ?_
  have F_oa_size : Fld Z h16 oa "com/example/javelot/javelot/classfile/ByteWriter" "size" "I" (.int (4 : Int32)) := F_oa_size.same W16
  have N16 := Fr.snoc X16 N13 g_oa
  have Zs16 : n0 ≤ h16.size := Nat.le_trans Zs13 (Keep.of_wr W16).1
  have K16 : Keep h0 h16 [oa, ob] := K13.wr W16 (Or.inl (List.mem_of_getElem? (i := 0) rfl))
  have E_oa : Exa Z h16 oa "com/example/javelot/javelot/classfile/ByteWriter" := E_oa.wr W16
  have F_oa_bytes : Fld Z h16 oa "com/example/javelot/javelot/classfile/ByteWriter" "bytes" "[B" (.ref ob) := F_oa_bytes.other W16 (Or.inr (slot_ne (Or.inl (hw _ (List.mem_of_getElem? (i := 12) rfl))) (Or.inl (hw _ (List.mem_of_getElem? (i := 23) rfl))) (by decide) (t := (.array .byte)) (t' := .int) (by decide) (by decide)))
  have A_ob : AI Z h16 ob .byte 256 (up (up (up pg 0 ((((pv.toUInt32 >>> ((24 : Int32) &&& 31).toUInt32).toInt32).toInt8.toInt32).toInt8.toInt32)) 1 ((((pv.toUInt32 >>> ((16 : Int32) &&& 31).toUInt32).toInt32).toInt8.toInt32).toInt8.toInt32)) 2 ((((pv.toUInt32 >>> ((8 : Int32) &&& 31).toUInt32).toInt32).toInt8.toInt32).toInt8.toInt32)) := A_ob.other W16 (Ne.symm ne_oa_ob)
  show Goes p.tables e below (T16.setTop (mkF m 83 #[.val (.ref oa), .val (.int pv)] [(.int (3 : Int32)), (.ref ob)])) _
  refine Goes.by (fun _ k => XS.iloadN X16.here hx rfl (hb hby d3_83) rfl k) ?_
  show Goes p.tables e below (T16.setTop (mkF m 84 #[.val (.ref oa), .val (.int pv)] [(.int pv), (.int (3 : Int32)), (.ref ob)])) _
  refine Goes.by (fun _ k => XS.i2b X16.here hx rfl (hb hby d3_84) rfl k) ?_
  show Goes p.tables e below (T16.setTop (mkF m 85 #[.val (.ref oa), .val (.int pv)] [(.int (pv.toInt8.toInt32)), (.int (3 : Int32)), (.ref ob)])) _
  obtain ⟨T17, h17, X17, e17, W17, A17, st17⟩ := stAB (fr := (mkF m 85 #[.val (.ref oa), .val (.int pv)] [(.int (pv.toInt8.toInt32)), (.int (3 : Int32)), (.ref ob)])) X16 hx hZ e16 A_ob (i := 3) (by decide) (by decide) rfl rfl (hb hby d3_85)
  refine Goes.by st17 ?_
  have A_ob : AI Z h17 ob .byte 256 (up (up (up (up pg 0 ((((pv.toUInt32 >>> ((24 : Int32) &&& 31).toUInt32).toInt32).toInt8.toInt32).toInt8.toInt32)) 1 ((((pv.toUInt32 >>> ((16 : Int32) &&& 31).toUInt32).toInt32).toInt8.toInt32).toInt8.toInt32)) 2 ((((pv.toUInt32 >>> ((8 : Int32) &&& 31).toUInt32).toInt32).toInt8.toInt32).toInt8.toInt32)) 3 ((pv.toInt8.toInt32).toInt8.toInt32)) := A17
  have N17 := Fr.snoc X17 N16 g_ob
  have Zs17 : n0 ≤ h17.size := Nat.le_trans Zs16 (Keep.of_wr W17).1
  have K17 : Keep h0 h17 [oa, ob] := K16.wr W17 (Or.inl (List.mem_of_getElem? (i := 1) rfl))
  have E_oa : Exa Z h17 oa "com/example/javelot/javelot/classfile/ByteWriter" := E_oa.wr W17
  have F_oa_bytes : Fld Z h17 oa "com/example/javelot/javelot/classfile/ByteWriter" "bytes" "[B" (.ref ob) := F_oa_bytes.other W17 (Or.inl ne_oa_ob)
  have F_oa_size : Fld Z h17 oa "com/example/javelot/javelot/classfile/ByteWriter" "size" "I" (.int (4 : Int32)) := F_oa_size.other W17 (Or.inl ne_oa_ob)
  show Goes p.tables e below (T17.setTop (mkF m 86 #[.val (.ref oa), .val (.int pv)] [])) _
  obtain ⟨fs, hr, hrun, hended, hW, hsame⟩ := X17.leave (v := none) (fun _ => rfl)
  refine ⟨_, _, X17.returnOut hx Bd.returns (hb hby d3_86) hr, hrun, hended, _, _, rfl, ?_, ⟨_, rfl⟩, hW, hsame.mono (by decide) (by decide)⟩
  show Q3s0 Z oa pv ob pg h0 n0 _ T17.heap _
  rw [e17]
  exact ⟨rfl, N17, K17, E_oa, F_oa_bytes, F_oa_size, A_ob⟩
theorem ef4s4 (m : MethodId) (oa : Addr) (pn : Int32) : entryFrame m #[(.ref oa), (.int pn)] 2 = mkF m 0 #[.val (.ref oa), .val (.int pn)] [] := by first | (simp [entryFrame, mkF, argsToLocals, Value.category]; done) | rfl
def Q4s4 (Z : State) (oa : Addr) (pn : Int32) (ob : Addr) (pg : Nat → Int32) (h0 : Heap) (n0 : Nat) (v : Option Value) (h : Heap) (L : List Loc) : Prop := v = none ∧ Fr n0 L ∧ h = h0
set_option maxRecDepth 65536 in
set_option maxHeartbeats 40000000 in
theorem rm4s4 (l : Launch) (Z : State) (a0 : Array Value) (hw : ∀ d ∈ tables_1, d.before a0 Z = true) (ws : List Jvm.Cond) (oa : Addr) (pn : Int32) (ob : Addr) (pg : Nat → Int32) (h0 : Heap) (n0 : Nat) (Z0 : n0 ≤ h0.size) (F_oa_bytes : Fld Z h0 oa "com/example/javelot/javelot/classfile/ByteWriter" "bytes" "[B" (.ref ob)) (F_oa_size : Fld Z h0 oa "com/example/javelot/javelot/classfile/ByteWriter" "size" "I" (.int (4 : Int32))) (A_ob : AI Z h0 ob .byte 256 pg) (hpn : pn = (4 : Int32)) :
    MetFree l (⟨"com/example/javelot/javelot/classfile/ByteWriter", "ensureRoom", "(I)V"⟩ : MethodName) (head1 (Jvm.Cond.code (⟨"com/example/javelot/javelot/classfile/ByteWriter", "ensureRoom", "(I)V"⟩ : MethodName) prog_1_method_10_code 2 none :: ws) ({ frames := 0, cells := 0, slots := 0, locals := 0 } : Room)) (fun a U => a = #[(.ref oa), (.int pn)] ∧ Z.Warmed39 U.vm ∧ U.heap = h0) (fun _ _ _ _ _ => True) (fun _ U o U' => ∃ v L, o = .returned v ∧ Q4s4 Z oa pn ob pg h0 n0 v U'.heap L ∧ FrameEnd U o U' L ({ frames := 0, cells := 0, slots := 0, locals := 0 } : Room).cells ({ frames := 0, cells := 0, slots := 0, locals := 0 } : Room).slots) := by
  refine MetFree.of_bodySF (plainFor_of_name pn_0) hisR ?_
  intro p e s m args below meth c s₁ Bd hml0 hP hK
  obtain ⟨rfl, hZ, hh⟩ := hP
  have hx := Bd.exec
  have hby := Bd.bytes
  have hml : c.maxLocals = 2 := hml0
  have hown : s.vm.findClass "com/example/javelot/javelot/classfile/ByteWriter" = some m.cls := findClass_of_methodNamed Bd.named
  have hnm := (name_of_methodNamed Bd.named Bd.method).1
  have X0 : Stand p l e ({ frames := 0, cells := 0, slots := 0, locals := 0 } : Room) s m #[(.ref oa), (.int pn)] below meth c s₁ [] 0 0 := Stand.of_body Bd
  have e0 : s₁.heap = h0 := by rw [← hh, Bd.state]; rfl
  have N0 := Fr.nil n0
  refine Goes.by (fun _ k => castTop (ef4s4 m oa pn) k) ?_
  show Goes p.tables e below (s₁.setTop (mkF m 0 #[.val (.ref oa), .val (.int pn)] [])) _
  refine Goes.by (fun _ k => XS.aloadN X0.here hx rfl (hb hby d4_0) rfl rfl k) ?_
  show Goes p.tables e below (s₁.setTop (mkF m 1 #[.val (.ref oa), .val (.int pn)] [(.ref oa)])) _
  obtain ⟨T1, X1, e1, st1⟩ := getF X0 hx hZ hown (host := "") (Or.inl (hw _ (List.mem_of_getElem? (i := 22) rfl))) Via.refl e0 F_oa_size (g := (mkF m 1 #[.val (.ref oa), .val (.int pn)] [(.ref oa)])) rfl rfl (hb hby d4_1)
  refine Goes.by st1 ?_
  show Goes p.tables e below (T1.setTop (mkF m 4 #[.val (.ref oa), .val (.int pn)] [(.int (4 : Int32))])) _
  refine Goes.by (fun _ k => XS.iloadN X1.here hx rfl (hb hby d4_4) rfl k) ?_
  show Goes p.tables e below (T1.setTop (mkF m 5 #[.val (.ref oa), .val (.int pn)] [(.int pn), (.int (4 : Int32))])) _
  refine Goes.by (fun _ k => XS.iadd X1.here hx rfl (hb hby d4_5) rfl k) ?_
  show Goes p.tables e below (T1.setTop (mkF m 6 #[.val (.ref oa), .val (.int pn)] [(.int ((4 : Int32) + pn))])) _
  refine Goes.by (fun _ k => XS.aloadN X1.here hx rfl (hb hby d4_6) rfl rfl k) ?_
  show Goes p.tables e below (T1.setTop (mkF m 7 #[.val (.ref oa), .val (.int pn)] [(.ref oa), (.int ((4 : Int32) + pn))])) _
  obtain ⟨T2, X2, e2, st2⟩ := getF X1 hx hZ hown (host := "") (Or.inl (hw _ (List.mem_of_getElem? (i := 11) rfl))) Via.refl e1 F_oa_bytes (g := (mkF m 7 #[.val (.ref oa), .val (.int pn)] [(.ref oa), (.int ((4 : Int32) + pn))])) rfl rfl (hb hby d4_7)
  refine Goes.by st2 ?_
  show Goes p.tables e below (T2.setTop (mkF m 10 #[.val (.ref oa), .val (.int pn)] [(.ref ob), (.int ((4 : Int32) + pn))])) _
  refine Goes.by (fun _ k => alen (z := (256 : Int32)) (fr := (mkF m 10 #[.val (.ref oa), .val (.int pn)] [(.ref ob), (.int ((4 : Int32) + pn))])) X2 hx hZ e2 A_ob (by decide) rfl rfl (hb hby d4_10) k) ?_
  show Goes p.tables e below (T2.setTop (mkF m 11 #[.val (.ref oa), .val (.int pn)] [(.int (256 : Int32)), (.int ((4 : Int32) + pn))])) _
  refine Goes.by (fun _ k => XS.icmpYes X2.here hx rfl (pc0 := 11) (pc' := 41) rfl (hb hby d4_11) rfl (flt (by rw [hpn]; decide : ¬ ((256 : Int32) < ((4 : Int32) + pn)))).2.2.2 (by decide) (by decide) k) ?_
  show Goes p.tables e below (T2.setTop (mkF m 41 #[.val (.ref oa), .val (.int pn)] [])) _
  obtain ⟨fs, hr, hrun, hended, hW, hsame⟩ := X2.leave (v := none) (fun _ => rfl)
  refine ⟨_, _, X2.returnOut hx Bd.returns (hb hby d4_41) hr, hrun, hended, _, _, rfl, ?_, ⟨_, rfl⟩, hW, hsame.mono (by decide) (by decide)⟩
  show Q4s4 Z oa pn ob pg h0 n0 _ T2.heap _
  rw [e2]
  exact ⟨rfl, N0, rfl⟩
theorem ef3s4 (m : MethodId) (oa : Addr) (pv : Int32) : entryFrame m #[(.ref oa), (.int pv)] 2 = mkF m 0 #[.val (.ref oa), .val (.int pv)] [] := by first | (simp [entryFrame, mkF, argsToLocals, Value.category]; done) | rfl
def Q3s4 (Z : State) (oa : Addr) (pv : Int32) (ob : Addr) (pg : Nat → Int32) (h0 : Heap) (n0 : Nat) (v : Option Value) (h : Heap) (L : List Loc) : Prop := v = none ∧ Fr n0 L ∧ Keep h0 h [oa, ob] ∧ Exa Z h oa "com/example/javelot/javelot/classfile/ByteWriter" ∧ Fld Z h oa "com/example/javelot/javelot/classfile/ByteWriter" "bytes" "[B" (.ref ob) ∧ Fld Z h oa "com/example/javelot/javelot/classfile/ByteWriter" "size" "I" (.int (8 : Int32)) ∧ AI Z h ob .byte 256 (up (up (up (up pg 4 ((((pv.toUInt32 >>> ((24 : Int32) &&& 31).toUInt32).toInt32).toInt8.toInt32).toInt8.toInt32)) 5 ((((pv.toUInt32 >>> ((16 : Int32) &&& 31).toUInt32).toInt32).toInt8.toInt32).toInt8.toInt32)) 6 ((((pv.toUInt32 >>> ((8 : Int32) &&& 31).toUInt32).toInt32).toInt8.toInt32).toInt8.toInt32)) 7 ((pv.toInt8.toInt32).toInt8.toInt32))
set_option maxRecDepth 65536 in
set_option maxHeartbeats 40000000 in
theorem rm3s4 (l : Launch) (Z : State) (a0 : Array Value) (hw : ∀ d ∈ tables_1, d.before a0 Z = true) (ws : List Jvm.Cond) (oa : Addr) (pv : Int32) (ob : Addr) (pg : Nat → Int32) (h0 : Heap) (n0 : Nat) (Z0 : n0 ≤ h0.size) (E_oa : Exa Z h0 oa "com/example/javelot/javelot/classfile/ByteWriter") (F_oa_bytes : Fld Z h0 oa "com/example/javelot/javelot/classfile/ByteWriter" "bytes" "[B" (.ref ob)) (F_oa_size : Fld Z h0 oa "com/example/javelot/javelot/classfile/ByteWriter" "size" "I" (.int (4 : Int32))) (A_ob : AI Z h0 ob .byte 256 pg) (ne_oa_ob : oa ≠ ob) (g_oa : n0 ≤ oa) (g_ob : n0 ≤ ob) :
    MetFree l (⟨"com/example/javelot/javelot/classfile/ByteWriter", "u4", "(I)V"⟩ : MethodName) (head1 (Jvm.Cond.code (⟨"com/example/javelot/javelot/classfile/ByteWriter", "u4", "(I)V"⟩ : MethodName) prog_1_method_4_code 2 none :: ws) ({ frames := 1, cells := 0, slots := 0, locals := 13 } : Room)) (fun a U => a = #[(.ref oa), (.int pv)] ∧ Z.Warmed39 U.vm ∧ U.heap = h0) (fun _ _ _ _ _ => True) (fun _ U o U' => ∃ v L, o = .returned v ∧ Q3s4 Z oa pv ob pg h0 n0 v U'.heap L ∧ FrameEnd U o U' L ({ frames := 1, cells := 0, slots := 0, locals := 13 } : Room).cells ({ frames := 1, cells := 0, slots := 0, locals := 13 } : Room).slots) := by
  refine MetFree.of_bodySF (plainFor_of_name pn_0) hisR ?_
  intro p e s m args below meth c s₁ Bd hml0 hP hK
  obtain ⟨rfl, hZ, hh⟩ := hP
  have hx := Bd.exec
  have hby := Bd.bytes
  have hml : c.maxLocals = 2 := hml0
  have hown : s.vm.findClass "com/example/javelot/javelot/classfile/ByteWriter" = some m.cls := findClass_of_methodNamed Bd.named
  have hnm := (name_of_methodNamed Bd.named Bd.method).1
  have X0 : Stand p l e ({ frames := 1, cells := 0, slots := 0, locals := 13 } : Room) s m #[(.ref oa), (.int pv)] below meth c s₁ [] 0 0 := Stand.of_body Bd
  have e0 : s₁.heap = h0 := by rw [← hh, Bd.state]; rfl
  have N0 := Fr.nil n0
  refine Goes.by (fun _ k => castTop (ef3s4 m oa pv) k) ?_
  show Goes p.tables e below (s₁.setTop (mkF m 0 #[.val (.ref oa), .val (.int pv)] [])) _
  refine Goes.by (fun _ k => XS.aloadN X0.here hx rfl (hb hby d3_0) rfl rfl k) ?_
  show Goes p.tables e below (s₁.setTop (mkF m 1 #[.val (.ref oa), .val (.int pv)] [(.ref oa)])) _
  refine Goes.by (fun _ k => XS.iconst X0.here hx rfl (hb hby d3_1) k) ?_
  show Goes p.tables e below (s₁.setTop (mkF m 2 #[.val (.ref oa), .val (.int pv)] [(.int (4 : Int32)), (.ref oa)])) _
  obtain ⟨cq1, q1, q1'⟩ := E_oa.cell
  obtain ⟨_, _, ⟨T1, L1, k1, n1⟩, -, X1, ⟨Lc1, hQ1, l1, y1, z1⟩, st1⟩ := X0.privateBack hx (y := (⟨"com/example/javelot/javelot/classfile/ByteWriter", "ensureRoom", "(I)V"⟩ : MethodName)) hown (mvT hZ (hw _ (List.mem_of_getElem? (i := 18) rfl))) (mvT hZ (hw _ (List.mem_of_getElem? (i := 19) rfl))) (selP hZ (hw _ (List.mem_of_getElem? (i := 2) rfl)) (hw _ (List.mem_of_getElem? (i := 20) rfl)) (hw _ (List.mem_of_getElem? (i := 19) rfl)) (by decide)) (Cond.privateMethod_at (mvP hZ (hw _ (List.mem_of_getElem? (i := 20) rfl)) (args := #[]))) (mvT hZ (hw _ (List.mem_of_getElem? (i := 21) rfl))) (by decide) (backOf (W := 0) (rm4s4 l Z a0 hw [] oa (4 : Int32) ob pg h0 n0 Z0 F_oa_bytes F_oa_size A_ob (rfl)) hZ (hw _ (List.mem_of_getElem? (i := 21) rfl)) (hw _ (List.mem_of_getElem? (i := 3) rfl)) (by decide) (by decide)) (g := (mkF m 2 #[.val (.ref oa), .val (.int pv)] [(.int (4 : Int32)), (.ref oa)])) rfl (by rw [hml]; rfl) (Steps.refl _) (a := oa) (by rw [e0]; exact q1) q1' (argsL := [(.int (4 : Int32))]) (rest := []) (lenOf pd_0 rfl) rfl (by show 2 * 0 + _ ≤ _; exact Nat.le_of_eq rfl) (hb hby d3_2) (fun _ _ => ⟨rfl, e0, (by decide : 0 + 0 ≤ _), (by decide : 0 + 0 ≤ _)⟩)
  dsimp only [Pt.U, Pt.locs, Pt.cells, Pt.slots] at X1 l1 y1 z1 st1 hQ1
  subst l1 y1 z1
  obtain ⟨rfl, N1q, e1⟩ := hQ1
  have N1 := Fr.app N0 N1q
  refine Goes.via st1 ?_
  show Goes p.tables e below (T1.setTop (mkF m 5 #[.val (.ref oa), .val (.int pv)] [])) _
  refine Goes.by (fun _ k => XS.aloadN X1.here hx rfl (hb hby d3_5) rfl rfl k) ?_
  show Goes p.tables e below (T1.setTop (mkF m 6 #[.val (.ref oa), .val (.int pv)] [(.ref oa)])) _
  obtain ⟨T2, X2, e2, st2⟩ := getF X1 hx hZ hown (host := "") (Or.inl (hw _ (List.mem_of_getElem? (i := 11) rfl))) Via.refl e1 F_oa_bytes (g := (mkF m 6 #[.val (.ref oa), .val (.int pv)] [(.ref oa)])) rfl rfl (hb hby d3_6)
  refine Goes.by st2 ?_
  show Goes p.tables e below (T2.setTop (mkF m 9 #[.val (.ref oa), .val (.int pv)] [(.ref ob)])) _
  refine Goes.by (fun _ k => XS.aloadN X2.here hx rfl (hb hby d3_9) rfl rfl k) ?_
  show Goes p.tables e below (T2.setTop (mkF m 10 #[.val (.ref oa), .val (.int pv)] [(.ref oa), (.ref ob)])) _
  refine Goes.by (fun _ k => XS.dup X2.here hx rfl (hb hby d3_10) rfl rfl k) ?_
  show Goes p.tables e below (T2.setTop (mkF m 11 #[.val (.ref oa), .val (.int pv)] [(.ref oa), (.ref oa), (.ref ob)])) _
  obtain ⟨T3, X3, e3, st3⟩ := getF X2 hx hZ hown (host := "") (Or.inl (hw _ (List.mem_of_getElem? (i := 22) rfl))) Via.refl e2 F_oa_size (g := (mkF m 11 #[.val (.ref oa), .val (.int pv)] [(.ref oa), (.ref oa), (.ref ob)])) rfl rfl (hb hby d3_11)
  refine Goes.by st3 ?_
  show Goes p.tables e below (T3.setTop (mkF m 14 #[.val (.ref oa), .val (.int pv)] [(.int (4 : Int32)), (.ref oa), (.ref ob)])) _
  refine Goes.by (fun _ k => XS.dupX1 X3.here hx rfl (hb hby d3_14) rfl rfl rfl k) ?_
  show Goes p.tables e below (T3.setTop (mkF m 15 #[.val (.ref oa), .val (.int pv)] [(.int (4 : Int32)), (.ref oa), (.int (4 : Int32)), (.ref ob)])) _
  refine Goes.by (fun _ k => XS.iconst X3.here hx rfl (hb hby d3_15) k) ?_
  show Goes p.tables e below (T3.setTop (mkF m 16 #[.val (.ref oa), .val (.int pv)] [(.int (1 : Int32)), (.int (4 : Int32)), (.ref oa), (.int (4 : Int32)), (.ref ob)])) _
  refine Goes.by (fun _ k => XS.iadd X3.here hx rfl (hb hby d3_16) rfl k) ?_
  show Goes p.tables e below (T3.setTop (mkF m 17 #[.val (.ref oa), .val (.int pv)] [(.int (5 : Int32)), (.ref oa), (.int (4 : Int32)), (.ref ob)])) _
  obtain ⟨T4, h4, X4, e4, W4, st4⟩ := putF X3 hx hZ hown (host := "") (Or.inl (hw _ (List.mem_of_getElem? (i := 22) rfl))) Via.refl e3 F_oa_size E_oa (Or.inl (hw _ (List.mem_of_getElem? (i := 23) rfl))) (hw _ (List.mem_of_getElem? (i := 2) rfl)) (ty := .int) (by decide) rfl rfl (g := (mkF m 17 #[.val (.ref oa), .val (.int pv)] [(.int (5 : Int32)), (.ref oa), (.int (4 : Int32)), (.ref ob)])) rfl rfl (hb hby d3_17)
  refine Goes.by st4 ?_
  have F_oa_size : Fld Z h4 oa "com/example/javelot/javelot/classfile/ByteWriter" "size" "I" (.int (5 : Int32)) := F_oa_size.same W4
  have N4 := Fr.snoc X4 N1 g_oa
  have Zs4 : n0 ≤ h4.size := Nat.le_trans Z0 (Keep.of_wr W4).1
  have K4 : Keep h0 h4 [oa, ob] := (Keep.refl h0 [oa, ob]).wr W4 (Or.inl (List.mem_of_getElem? (i := 0) rfl))
  have E_oa : Exa Z h4 oa "com/example/javelot/javelot/classfile/ByteWriter" := E_oa.wr W4
  have F_oa_bytes : Fld Z h4 oa "com/example/javelot/javelot/classfile/ByteWriter" "bytes" "[B" (.ref ob) := F_oa_bytes.other W4 (Or.inr (slot_ne (Or.inl (hw _ (List.mem_of_getElem? (i := 12) rfl))) (Or.inl (hw _ (List.mem_of_getElem? (i := 23) rfl))) (by decide) (t := (.array .byte)) (t' := .int) (by decide) (by decide)))
  have A_ob : AI Z h4 ob .byte 256 pg := A_ob.other W4 (Ne.symm ne_oa_ob)
  show Goes p.tables e below (T4.setTop (mkF m 20 #[.val (.ref oa), .val (.int pv)] [(.int (4 : Int32)), (.ref ob)])) _
  refine Goes.by (fun _ k => XS.iloadN X4.here hx rfl (hb hby d3_20) rfl k) ?_
  show Goes p.tables e below (T4.setTop (mkF m 21 #[.val (.ref oa), .val (.int pv)] [(.int pv), (.int (4 : Int32)), (.ref ob)])) _
  refine Goes.by (fun _ k => XS.bipush X4.here hx rfl (hb hby d3_21) k) ?_
  show Goes p.tables e below (T4.setTop (mkF m 23 #[.val (.ref oa), .val (.int pv)] [(.int (24 : Int32)), (.int pv), (.int (4 : Int32)), (.ref ob)])) _
  refine Goes.by (fun _ k => XS.iushr X4.here hx rfl (hb hby d3_23) rfl k) ?_
  show Goes p.tables e below (T4.setTop (mkF m 24 #[.val (.ref oa), .val (.int pv)] [(.int ((pv.toUInt32 >>> ((24 : Int32) &&& 31).toUInt32).toInt32)), (.int (4 : Int32)), (.ref ob)])) _
  refine Goes.by (fun _ k => XS.i2b X4.here hx rfl (hb hby d3_24) rfl k) ?_
  show Goes p.tables e below (T4.setTop (mkF m 25 #[.val (.ref oa), .val (.int pv)] [(.int (((pv.toUInt32 >>> ((24 : Int32) &&& 31).toUInt32).toInt32).toInt8.toInt32)), (.int (4 : Int32)), (.ref ob)])) _
  obtain ⟨T5, h5, X5, e5, W5, A5, st5⟩ := stAB (fr := (mkF m 25 #[.val (.ref oa), .val (.int pv)] [(.int (((pv.toUInt32 >>> ((24 : Int32) &&& 31).toUInt32).toInt32).toInt8.toInt32)), (.int (4 : Int32)), (.ref ob)])) X4 hx hZ e4 A_ob (i := 4) (by decide) (by decide) rfl rfl (hb hby d3_25)
  refine Goes.by st5 ?_
  have A_ob : AI Z h5 ob .byte 256 (up pg 4 ((((pv.toUInt32 >>> ((24 : Int32) &&& 31).toUInt32).toInt32).toInt8.toInt32).toInt8.toInt32)) := A5
  have N5 := Fr.snoc X5 N4 g_ob
  have Zs5 : n0 ≤ h5.size := Nat.le_trans Zs4 (Keep.of_wr W5).1
  have K5 : Keep h0 h5 [oa, ob] := K4.wr W5 (Or.inl (List.mem_of_getElem? (i := 1) rfl))
  have E_oa : Exa Z h5 oa "com/example/javelot/javelot/classfile/ByteWriter" := E_oa.wr W5
  have F_oa_bytes : Fld Z h5 oa "com/example/javelot/javelot/classfile/ByteWriter" "bytes" "[B" (.ref ob) := F_oa_bytes.other W5 (Or.inl ne_oa_ob)
  have F_oa_size : Fld Z h5 oa "com/example/javelot/javelot/classfile/ByteWriter" "size" "I" (.int (5 : Int32)) := F_oa_size.other W5 (Or.inl ne_oa_ob)
  show Goes p.tables e below (T5.setTop (mkF m 26 #[.val (.ref oa), .val (.int pv)] [])) _
  refine Goes.by (fun _ k => XS.aloadN X5.here hx rfl (hb hby d3_26) rfl rfl k) ?_
  show Goes p.tables e below (T5.setTop (mkF m 27 #[.val (.ref oa), .val (.int pv)] [(.ref oa)])) _
  obtain ⟨T6, X6, e6, st6⟩ := getF X5 hx hZ hown (host := "") (Or.inl (hw _ (List.mem_of_getElem? (i := 11) rfl))) Via.refl e5 F_oa_bytes (g := (mkF m 27 #[.val (.ref oa), .val (.int pv)] [(.ref oa)])) rfl rfl (hb hby d3_27)
  refine Goes.by st6 ?_
  show Goes p.tables e below (T6.setTop (mkF m 30 #[.val (.ref oa), .val (.int pv)] [(.ref ob)])) _
  refine Goes.by (fun _ k => XS.aloadN X6.here hx rfl (hb hby d3_30) rfl rfl k) ?_
  show Goes p.tables e below (T6.setTop (mkF m 31 #[.val (.ref oa), .val (.int pv)] [(.ref oa), (.ref ob)])) _
  refine Goes.by (fun _ k => XS.dup X6.here hx rfl (hb hby d3_31) rfl rfl k) ?_
  show Goes p.tables e below (T6.setTop (mkF m 32 #[.val (.ref oa), .val (.int pv)] [(.ref oa), (.ref oa), (.ref ob)])) _
  obtain ⟨T7, X7, e7, st7⟩ := getF X6 hx hZ hown (host := "") (Or.inl (hw _ (List.mem_of_getElem? (i := 22) rfl))) Via.refl e6 F_oa_size (g := (mkF m 32 #[.val (.ref oa), .val (.int pv)] [(.ref oa), (.ref oa), (.ref ob)])) rfl rfl (hb hby d3_32)
  refine Goes.by st7 ?_
  show Goes p.tables e below (T7.setTop (mkF m 35 #[.val (.ref oa), .val (.int pv)] [(.int (5 : Int32)), (.ref oa), (.ref ob)])) _
  refine Goes.by (fun _ k => XS.dupX1 X7.here hx rfl (hb hby d3_35) rfl rfl rfl k) ?_
  show Goes p.tables e below (T7.setTop (mkF m 36 #[.val (.ref oa), .val (.int pv)] [(.int (5 : Int32)), (.ref oa), (.int (5 : Int32)), (.ref ob)])) _
  refine Goes.by (fun _ k => XS.iconst X7.here hx rfl (hb hby d3_36) k) ?_
  show Goes p.tables e below (T7.setTop (mkF m 37 #[.val (.ref oa), .val (.int pv)] [(.int (1 : Int32)), (.int (5 : Int32)), (.ref oa), (.int (5 : Int32)), (.ref ob)])) _
  refine Goes.by (fun _ k => XS.iadd X7.here hx rfl (hb hby d3_37) rfl k) ?_
  show Goes p.tables e below (T7.setTop (mkF m 38 #[.val (.ref oa), .val (.int pv)] [(.int (6 : Int32)), (.ref oa), (.int (5 : Int32)), (.ref ob)])) _
  obtain ⟨T8, h8, X8, e8, W8, st8⟩ := putF X7 hx hZ hown (host := "") (Or.inl (hw _ (List.mem_of_getElem? (i := 22) rfl))) Via.refl e7 F_oa_size E_oa (Or.inl (hw _ (List.mem_of_getElem? (i := 23) rfl))) (hw _ (List.mem_of_getElem? (i := 2) rfl)) (ty := .int) (by decide) rfl rfl (g := (mkF m 38 #[.val (.ref oa), .val (.int pv)] [(.int (6 : Int32)), (.ref oa), (.int (5 : Int32)), (.ref ob)])) rfl rfl (hb hby d3_38)
  refine Goes.by st8 ?_
  have F_oa_size : Fld Z h8 oa "com/example/javelot/javelot/classfile/ByteWriter" "size" "I" (.int (6 : Int32)) := F_oa_size.same W8
  have N8 := Fr.snoc X8 N5 g_oa
  have Zs8 : n0 ≤ h8.size := Nat.le_trans Zs5 (Keep.of_wr W8).1
  have K8 : Keep h0 h8 [oa, ob] := K5.wr W8 (Or.inl (List.mem_of_getElem? (i := 0) rfl))
  have E_oa : Exa Z h8 oa "com/example/javelot/javelot/classfile/ByteWriter" := E_oa.wr W8
  have F_oa_bytes : Fld Z h8 oa "com/example/javelot/javelot/classfile/ByteWriter" "bytes" "[B" (.ref ob) := F_oa_bytes.other W8 (Or.inr (slot_ne (Or.inl (hw _ (List.mem_of_getElem? (i := 12) rfl))) (Or.inl (hw _ (List.mem_of_getElem? (i := 23) rfl))) (by decide) (t := (.array .byte)) (t' := .int) (by decide) (by decide)))
  have A_ob : AI Z h8 ob .byte 256 (up pg 4 ((((pv.toUInt32 >>> ((24 : Int32) &&& 31).toUInt32).toInt32).toInt8.toInt32).toInt8.toInt32)) := A_ob.other W8 (Ne.symm ne_oa_ob)
  show Goes p.tables e below (T8.setTop (mkF m 41 #[.val (.ref oa), .val (.int pv)] [(.int (5 : Int32)), (.ref ob)])) _
  refine Goes.by (fun _ k => XS.iloadN X8.here hx rfl (hb hby d3_41) rfl k) ?_
  show Goes p.tables e below (T8.setTop (mkF m 42 #[.val (.ref oa), .val (.int pv)] [(.int pv), (.int (5 : Int32)), (.ref ob)])) _
  refine Goes.by (fun _ k => XS.bipush X8.here hx rfl (hb hby d3_42) k) ?_
  show Goes p.tables e below (T8.setTop (mkF m 44 #[.val (.ref oa), .val (.int pv)] [(.int (16 : Int32)), (.int pv), (.int (5 : Int32)), (.ref ob)])) _
  refine Goes.by (fun _ k => XS.iushr X8.here hx rfl (hb hby d3_44) rfl k) ?_
  show Goes p.tables e below (T8.setTop (mkF m 45 #[.val (.ref oa), .val (.int pv)] [(.int ((pv.toUInt32 >>> ((16 : Int32) &&& 31).toUInt32).toInt32)), (.int (5 : Int32)), (.ref ob)])) _
  refine Goes.by (fun _ k => XS.i2b X8.here hx rfl (hb hby d3_45) rfl k) ?_
  show Goes p.tables e below (T8.setTop (mkF m 46 #[.val (.ref oa), .val (.int pv)] [(.int (((pv.toUInt32 >>> ((16 : Int32) &&& 31).toUInt32).toInt32).toInt8.toInt32)), (.int (5 : Int32)), (.ref ob)])) _
  obtain ⟨T9, h9, X9, e9, W9, A9, st9⟩ := stAB (fr := (mkF m 46 #[.val (.ref oa), .val (.int pv)] [(.int (((pv.toUInt32 >>> ((16 : Int32) &&& 31).toUInt32).toInt32).toInt8.toInt32)), (.int (5 : Int32)), (.ref ob)])) X8 hx hZ e8 A_ob (i := 5) (by decide) (by decide) rfl rfl (hb hby d3_46)
  refine Goes.by st9 ?_
  have A_ob : AI Z h9 ob .byte 256 (up (up pg 4 ((((pv.toUInt32 >>> ((24 : Int32) &&& 31).toUInt32).toInt32).toInt8.toInt32).toInt8.toInt32)) 5 ((((pv.toUInt32 >>> ((16 : Int32) &&& 31).toUInt32).toInt32).toInt8.toInt32).toInt8.toInt32)) := A9
  have N9 := Fr.snoc X9 N8 g_ob
  have Zs9 : n0 ≤ h9.size := Nat.le_trans Zs8 (Keep.of_wr W9).1
  have K9 : Keep h0 h9 [oa, ob] := K8.wr W9 (Or.inl (List.mem_of_getElem? (i := 1) rfl))
  have E_oa : Exa Z h9 oa "com/example/javelot/javelot/classfile/ByteWriter" := E_oa.wr W9
  have F_oa_bytes : Fld Z h9 oa "com/example/javelot/javelot/classfile/ByteWriter" "bytes" "[B" (.ref ob) := F_oa_bytes.other W9 (Or.inl ne_oa_ob)
  have F_oa_size : Fld Z h9 oa "com/example/javelot/javelot/classfile/ByteWriter" "size" "I" (.int (6 : Int32)) := F_oa_size.other W9 (Or.inl ne_oa_ob)
  show Goes p.tables e below (T9.setTop (mkF m 47 #[.val (.ref oa), .val (.int pv)] [])) _
  refine Goes.by (fun _ k => XS.aloadN X9.here hx rfl (hb hby d3_47) rfl rfl k) ?_
  show Goes p.tables e below (T9.setTop (mkF m 48 #[.val (.ref oa), .val (.int pv)] [(.ref oa)])) _
  obtain ⟨T10, X10, e10, st10⟩ := getF X9 hx hZ hown (host := "") (Or.inl (hw _ (List.mem_of_getElem? (i := 11) rfl))) Via.refl e9 F_oa_bytes (g := (mkF m 48 #[.val (.ref oa), .val (.int pv)] [(.ref oa)])) rfl rfl (hb hby d3_48)
  refine Goes.by st10 ?_
  show Goes p.tables e below (T10.setTop (mkF m 51 #[.val (.ref oa), .val (.int pv)] [(.ref ob)])) _
  refine Goes.by (fun _ k => XS.aloadN X10.here hx rfl (hb hby d3_51) rfl rfl k) ?_
  show Goes p.tables e below (T10.setTop (mkF m 52 #[.val (.ref oa), .val (.int pv)] [(.ref oa), (.ref ob)])) _
  refine Goes.by (fun _ k => XS.dup X10.here hx rfl (hb hby d3_52) rfl rfl k) ?_
  show Goes p.tables e below (T10.setTop (mkF m 53 #[.val (.ref oa), .val (.int pv)] [(.ref oa), (.ref oa), (.ref ob)])) _
  obtain ⟨T11, X11, e11, st11⟩ := getF X10 hx hZ hown (host := "") (Or.inl (hw _ (List.mem_of_getElem? (i := 22) rfl))) Via.refl e10 F_oa_size (g := (mkF m 53 #[.val (.ref oa), .val (.int pv)] [(.ref oa), (.ref oa), (.ref ob)])) rfl rfl (hb hby d3_53)
  refine Goes.by st11 ?_
  show Goes p.tables e below (T11.setTop (mkF m 56 #[.val (.ref oa), .val (.int pv)] [(.int (6 : Int32)), (.ref oa), (.ref ob)])) _
  refine Goes.by (fun _ k => XS.dupX1 X11.here hx rfl (hb hby d3_56) rfl rfl rfl k) ?_
  show Goes p.tables e below (T11.setTop (mkF m 57 #[.val (.ref oa), .val (.int pv)] [(.int (6 : Int32)), (.ref oa), (.int (6 : Int32)), (.ref ob)])) _
  refine Goes.by (fun _ k => XS.iconst X11.here hx rfl (hb hby d3_57) k) ?_
  show Goes p.tables e below (T11.setTop (mkF m 58 #[.val (.ref oa), .val (.int pv)] [(.int (1 : Int32)), (.int (6 : Int32)), (.ref oa), (.int (6 : Int32)), (.ref ob)])) _
  refine Goes.by (fun _ k => XS.iadd X11.here hx rfl (hb hby d3_58) rfl k) ?_
  show Goes p.tables e below (T11.setTop (mkF m 59 #[.val (.ref oa), .val (.int pv)] [(.int (7 : Int32)), (.ref oa), (.int (6 : Int32)), (.ref ob)])) _
  obtain ⟨T12, h12, X12, e12, W12, st12⟩ := putF X11 hx hZ hown (host := "") (Or.inl (hw _ (List.mem_of_getElem? (i := 22) rfl))) Via.refl e11 F_oa_size E_oa (Or.inl (hw _ (List.mem_of_getElem? (i := 23) rfl))) (hw _ (List.mem_of_getElem? (i := 2) rfl)) (ty := .int) (by decide) rfl rfl (g := (mkF m 59 #[.val (.ref oa), .val (.int pv)] [(.int (7 : Int32)), (.ref oa), (.int (6 : Int32)), (.ref ob)])) rfl rfl (hb hby d3_59)
  refine Goes.by st12 ?_
  have F_oa_size : Fld Z h12 oa "com/example/javelot/javelot/classfile/ByteWriter" "size" "I" (.int (7 : Int32)) := F_oa_size.same W12
  have N12 := Fr.snoc X12 N9 g_oa
  have Zs12 : n0 ≤ h12.size := Nat.le_trans Zs9 (Keep.of_wr W12).1
  have K12 : Keep h0 h12 [oa, ob] := K9.wr W12 (Or.inl (List.mem_of_getElem? (i := 0) rfl))
  have E_oa : Exa Z h12 oa "com/example/javelot/javelot/classfile/ByteWriter" := E_oa.wr W12
  have F_oa_bytes : Fld Z h12 oa "com/example/javelot/javelot/classfile/ByteWriter" "bytes" "[B" (.ref ob) := F_oa_bytes.other W12 (Or.inr (slot_ne (Or.inl (hw _ (List.mem_of_getElem? (i := 12) rfl))) (Or.inl (hw _ (List.mem_of_getElem? (i := 23) rfl))) (by decide) (t := (.array .byte)) (t' := .int) (by decide) (by decide)))
  have A_ob : AI Z h12 ob .byte 256 (up (up pg 4 ((((pv.toUInt32 >>> ((24 : Int32) &&& 31).toUInt32).toInt32).toInt8.toInt32).toInt8.toInt32)) 5 ((((pv.toUInt32 >>> ((16 : Int32) &&& 31).toUInt32).toInt32).toInt8.toInt32).toInt8.toInt32)) := A_ob.other W12 (Ne.symm ne_oa_ob)
  show Goes p.tables e below (T12.setTop (mkF m 62 #[.val (.ref oa), .val (.int pv)] [(.int (6 : Int32)), (.ref ob)])) _
  refine Goes.by (fun _ k => XS.iloadN X12.here hx rfl (hb hby d3_62) rfl k) ?_
  show Goes p.tables e below (T12.setTop (mkF m 63 #[.val (.ref oa), .val (.int pv)] [(.int pv), (.int (6 : Int32)), (.ref ob)])) _
  refine Goes.by (fun _ k => XS.bipush X12.here hx rfl (hb hby d3_63) k) ?_
  show Goes p.tables e below (T12.setTop (mkF m 65 #[.val (.ref oa), .val (.int pv)] [(.int (8 : Int32)), (.int pv), (.int (6 : Int32)), (.ref ob)])) _
  refine Goes.by (fun _ k => XS.iushr X12.here hx rfl (hb hby d3_65) rfl k) ?_
  show Goes p.tables e below (T12.setTop (mkF m 66 #[.val (.ref oa), .val (.int pv)] [(.int ((pv.toUInt32 >>> ((8 : Int32) &&& 31).toUInt32).toInt32)), (.int (6 : Int32)), (.ref ob)])) _
  refine Goes.by (fun _ k => XS.i2b X12.here hx rfl (hb hby d3_66) rfl k) ?_
  show Goes p.tables e below (T12.setTop (mkF m 67 #[.val (.ref oa), .val (.int pv)] [(.int (((pv.toUInt32 >>> ((8 : Int32) &&& 31).toUInt32).toInt32).toInt8.toInt32)), (.int (6 : Int32)), (.ref ob)])) _
  obtain ⟨T13, h13, X13, e13, W13, A13, st13⟩ := stAB (fr := (mkF m 67 #[.val (.ref oa), .val (.int pv)] [(.int (((pv.toUInt32 >>> ((8 : Int32) &&& 31).toUInt32).toInt32).toInt8.toInt32)), (.int (6 : Int32)), (.ref ob)])) X12 hx hZ e12 A_ob (i := 6) (by decide) (by decide) rfl rfl (hb hby d3_67)
  refine Goes.by st13 ?_
  have A_ob : AI Z h13 ob .byte 256 (up (up (up pg 4 ((((pv.toUInt32 >>> ((24 : Int32) &&& 31).toUInt32).toInt32).toInt8.toInt32).toInt8.toInt32)) 5 ((((pv.toUInt32 >>> ((16 : Int32) &&& 31).toUInt32).toInt32).toInt8.toInt32).toInt8.toInt32)) 6 ((((pv.toUInt32 >>> ((8 : Int32) &&& 31).toUInt32).toInt32).toInt8.toInt32).toInt8.toInt32)) := A13
  have N13 := Fr.snoc X13 N12 g_ob
  have Zs13 : n0 ≤ h13.size := Nat.le_trans Zs12 (Keep.of_wr W13).1
  have K13 : Keep h0 h13 [oa, ob] := K12.wr W13 (Or.inl (List.mem_of_getElem? (i := 1) rfl))
  have E_oa : Exa Z h13 oa "com/example/javelot/javelot/classfile/ByteWriter" := E_oa.wr W13
  have F_oa_bytes : Fld Z h13 oa "com/example/javelot/javelot/classfile/ByteWriter" "bytes" "[B" (.ref ob) := F_oa_bytes.other W13 (Or.inl ne_oa_ob)
  have F_oa_size : Fld Z h13 oa "com/example/javelot/javelot/classfile/ByteWriter" "size" "I" (.int (7 : Int32)) := F_oa_size.other W13 (Or.inl ne_oa_ob)
  show Goes p.tables e below (T13.setTop (mkF m 68 #[.val (.ref oa), .val (.int pv)] [])) _
  refine Goes.by (fun _ k => XS.aloadN X13.here hx rfl (hb hby d3_68) rfl rfl k) ?_
  show Goes p.tables e below (T13.setTop (mkF m 69 #[.val (.ref oa), .val (.int pv)] [(.ref oa)])) _
  obtain ⟨T14, X14, e14, st14⟩ := getF X13 hx hZ hown (host := "") (Or.inl (hw _ (List.mem_of_getElem? (i := 11) rfl))) Via.refl e13 F_oa_bytes (g := (mkF m 69 #[.val (.ref oa), .val (.int pv)] [(.ref oa)])) rfl rfl (hb hby d3_69)
  refine Goes.by st14 ?_
  show Goes p.tables e below (T14.setTop (mkF m 72 #[.val (.ref oa), .val (.int pv)] [(.ref ob)])) _
  refine Goes.by (fun _ k => XS.aloadN X14.here hx rfl (hb hby d3_72) rfl rfl k) ?_
  show Goes p.tables e below (T14.setTop (mkF m 73 #[.val (.ref oa), .val (.int pv)] [(.ref oa), (.ref ob)])) _
  refine Goes.by (fun _ k => XS.dup X14.here hx rfl (hb hby d3_73) rfl rfl k) ?_
  show Goes p.tables e below (T14.setTop (mkF m 74 #[.val (.ref oa), .val (.int pv)] [(.ref oa), (.ref oa), (.ref ob)])) _
  obtain ⟨T15, X15, e15, st15⟩ := getF X14 hx hZ hown (host := "") (Or.inl (hw _ (List.mem_of_getElem? (i := 22) rfl))) Via.refl e14 F_oa_size (g := (mkF m 74 #[.val (.ref oa), .val (.int pv)] [(.ref oa), (.ref oa), (.ref ob)])) rfl rfl (hb hby d3_74)
  refine Goes.by st15 ?_
  show Goes p.tables e below (T15.setTop (mkF m 77 #[.val (.ref oa), .val (.int pv)] [(.int (7 : Int32)), (.ref oa), (.ref ob)])) _
  refine Goes.by (fun _ k => XS.dupX1 X15.here hx rfl (hb hby d3_77) rfl rfl rfl k) ?_
  show Goes p.tables e below (T15.setTop (mkF m 78 #[.val (.ref oa), .val (.int pv)] [(.int (7 : Int32)), (.ref oa), (.int (7 : Int32)), (.ref ob)])) _
  refine Goes.by (fun _ k => XS.iconst X15.here hx rfl (hb hby d3_78) k) ?_
  show Goes p.tables e below (T15.setTop (mkF m 79 #[.val (.ref oa), .val (.int pv)] [(.int (1 : Int32)), (.int (7 : Int32)), (.ref oa), (.int (7 : Int32)), (.ref ob)])) _
  refine Goes.by (fun _ k => XS.iadd X15.here hx rfl (hb hby d3_79) rfl k) ?_
  show Goes p.tables e below (T15.setTop (mkF m 80 #[.val (.ref oa), .val (.int pv)] [(.int (8 : Int32)), (.ref oa), (.int (7 : Int32)), (.ref ob)])) _
  obtain ⟨T16, h16, X16, e16, W16, st16⟩ := putF X15 hx hZ hown (host := "") (Or.inl (hw _ (List.mem_of_getElem? (i := 22) rfl))) Via.refl e15 F_oa_size E_oa (Or.inl (hw _ (List.mem_of_getElem? (i := 23) rfl))) (hw _ (List.mem_of_getElem? (i := 2) rfl)) (ty := .int) (by decide) rfl rfl (g := (mkF m 80 #[.val (.ref oa), .val (.int pv)] [(.int (8 : Int32)), (.ref oa), (.int (7 : Int32)), (.ref ob)])) rfl rfl (hb hby d3_80)
  refine Goes.by st16 ?_
  have F_oa_size : Fld Z h16 oa "com/example/javelot/javelot/classfile/ByteWriter" "size" "I" (.int (8 : Int32)) := F_oa_size.same W16
  have N16 := Fr.snoc X16 N13 g_oa
  have Zs16 : n0 ≤ h16.size := Nat.le_trans Zs13 (Keep.of_wr W16).1
  have K16 : Keep h0 h16 [oa, ob] := K13.wr W16 (Or.inl (List.mem_of_getElem? (i := 0) rfl))
  have E_oa : Exa Z h16 oa "com/example/javelot/javelot/classfile/ByteWriter" := E_oa.wr W16
  have F_oa_bytes : Fld Z h16 oa "com/example/javelot/javelot/classfile/ByteWriter" "bytes" "[B" (.ref ob) := F_oa_bytes.other W16 (Or.inr (slot_ne (Or.inl (hw _ (List.mem_of_getElem? (i := 12) rfl))) (Or.inl (hw _ (List.mem_of_getElem? (i := 23) rfl))) (by decide) (t := (.array .byte)) (t' := .int) (by decide) (by decide)))
  have A_ob : AI Z h16 ob .byte 256 (up (up (up pg 4 ((((pv.toUInt32 >>> ((24 : Int32) &&& 31).toUInt32).toInt32).toInt8.toInt32).toInt8.toInt32)) 5 ((((pv.toUInt32 >>> ((16 : Int32) &&& 31).toUInt32).toInt32).toInt8.toInt32).toInt8.toInt32)) 6 ((((pv.toUInt32 >>> ((8 : Int32) &&& 31).toUInt32).toInt32).toInt8.toInt32).toInt8.toInt32)) := A_ob.other W16 (Ne.symm ne_oa_ob)
  show Goes p.tables e below (T16.setTop (mkF m 83 #[.val (.ref oa), .val (.int pv)] [(.int (7 : Int32)), (.ref ob)])) _
  refine Goes.by (fun _ k => XS.iloadN X16.here hx rfl (hb hby d3_83) rfl k) ?_
  show Goes p.tables e below (T16.setTop (mkF m 84 #[.val (.ref oa), .val (.int pv)] [(.int pv), (.int (7 : Int32)), (.ref ob)])) _
  refine Goes.by (fun _ k => XS.i2b X16.here hx rfl (hb hby d3_84) rfl k) ?_
  show Goes p.tables e below (T16.setTop (mkF m 85 #[.val (.ref oa), .val (.int pv)] [(.int (pv.toInt8.toInt32)), (.int (7 : Int32)), (.ref ob)])) _
  obtain ⟨T17, h17, X17, e17, W17, A17, st17⟩ := stAB (fr := (mkF m 85 #[.val (.ref oa), .val (.int pv)] [(.int (pv.toInt8.toInt32)), (.int (7 : Int32)), (.ref ob)])) X16 hx hZ e16 A_ob (i := 7) (by decide) (by decide) rfl rfl (hb hby d3_85)
  refine Goes.by st17 ?_
  have A_ob : AI Z h17 ob .byte 256 (up (up (up (up pg 4 ((((pv.toUInt32 >>> ((24 : Int32) &&& 31).toUInt32).toInt32).toInt8.toInt32).toInt8.toInt32)) 5 ((((pv.toUInt32 >>> ((16 : Int32) &&& 31).toUInt32).toInt32).toInt8.toInt32).toInt8.toInt32)) 6 ((((pv.toUInt32 >>> ((8 : Int32) &&& 31).toUInt32).toInt32).toInt8.toInt32).toInt8.toInt32)) 7 ((pv.toInt8.toInt32).toInt8.toInt32)) := A17
  have N17 := Fr.snoc X17 N16 g_ob
  have Zs17 : n0 ≤ h17.size := Nat.le_trans Zs16 (Keep.of_wr W17).1
  have K17 : Keep h0 h17 [oa, ob] := K16.wr W17 (Or.inl (List.mem_of_getElem? (i := 1) rfl))
  have E_oa : Exa Z h17 oa "com/example/javelot/javelot/classfile/ByteWriter" := E_oa.wr W17
  have F_oa_bytes : Fld Z h17 oa "com/example/javelot/javelot/classfile/ByteWriter" "bytes" "[B" (.ref ob) := F_oa_bytes.other W17 (Or.inl ne_oa_ob)
  have F_oa_size : Fld Z h17 oa "com/example/javelot/javelot/classfile/ByteWriter" "size" "I" (.int (8 : Int32)) := F_oa_size.other W17 (Or.inl ne_oa_ob)
  show Goes p.tables e below (T17.setTop (mkF m 86 #[.val (.ref oa), .val (.int pv)] [])) _
  obtain ⟨fs, hr, hrun, hended, hW, hsame⟩ := X17.leave (v := none) (fun _ => rfl)
  refine ⟨_, _, X17.returnOut hx Bd.returns (hb hby d3_86) hr, hrun, hended, _, _, rfl, ?_, ⟨_, rfl⟩, hW, hsame.mono (by decide) (by decide)⟩
  show Q3s4 Z oa pv ob pg h0 n0 _ T17.heap _
  rw [e17]
  exact ⟨rfl, N17, K17, E_oa, F_oa_bytes, F_oa_size, A_ob⟩
theorem d5_0 : decode prog_1_method_5_code 0 = .ok (.aload_n 0, 1) := by decide +kernel
theorem d5_1 : decode prog_1_method_5_code 1 = .ok (.getfield 7, 3) := by decide +kernel
theorem d5_4 : decode prog_1_method_5_code 4 = .ok (.iload_n 1, 1) := by decide +kernel
theorem d5_5 : decode prog_1_method_5_code 5 = .ok (.iload_n 2, 1) := by decide +kernel
theorem d5_6 : decode prog_1_method_5_code 6 = .ok (.bipush 8, 2) := by decide +kernel
theorem d5_8 : decode prog_1_method_5_code 8 = .ok (.iushr, 1) := by decide +kernel
theorem d5_9 : decode prog_1_method_5_code 9 = .ok (.i2b, 1) := by decide +kernel
theorem d5_10 : decode prog_1_method_5_code 10 = .ok (.bastore, 1) := by decide +kernel
theorem d5_11 : decode prog_1_method_5_code 11 = .ok (.aload_n 0, 1) := by decide +kernel
theorem d5_12 : decode prog_1_method_5_code 12 = .ok (.getfield 7, 3) := by decide +kernel
theorem d5_15 : decode prog_1_method_5_code 15 = .ok (.iload_n 1, 1) := by decide +kernel
theorem d5_16 : decode prog_1_method_5_code 16 = .ok (.iconst 1, 1) := by decide +kernel
theorem d5_17 : decode prog_1_method_5_code 17 = .ok (.iadd, 1) := by decide +kernel
theorem d5_18 : decode prog_1_method_5_code 18 = .ok (.iload_n 2, 1) := by decide +kernel
theorem d5_19 : decode prog_1_method_5_code 19 = .ok (.i2b, 1) := by decide +kernel
theorem d5_20 : decode prog_1_method_5_code 20 = .ok (.bastore, 1) := by decide +kernel
theorem d5_21 : decode prog_1_method_5_code 21 = .ok (.return_, 1) := by decide +kernel
theorem ef5 (m : MethodId) (oa : Addr) (po : Int32) (pv : Int32) : entryFrame m #[(.ref oa), (.int po), (.int pv)] 3 = mkF m 0 #[.val (.ref oa), .val (.int po), .val (.int pv)] [] := by first | (simp [entryFrame, mkF, argsToLocals, Value.category]; done) | rfl
def Q5 (Z : State) (oa : Addr) (po : Int32) (pv : Int32) (ob : Addr) (pg : Nat → Int32) (ni : Nat) (h0 : Heap) (n0 : Nat) (v : Option Value) (h : Heap) (L : List Loc) : Prop := v = none ∧ Fr n0 L ∧ Keep h0 h [ob] ∧ AI Z h ob .byte 256 (up (up pg ni ((((pv.toUInt32 >>> ((8 : Int32) &&& 31).toUInt32).toInt32).toInt8.toInt32).toInt8.toInt32)) (ni + 1) ((pv.toInt8.toInt32).toInt8.toInt32))
set_option maxRecDepth 65536 in
set_option maxHeartbeats 40000000 in
theorem rm5 (l : Launch) (Z : State) (a0 : Array Value) (hw : ∀ d ∈ tables_1, d.before a0 Z = true) (ws : List Jvm.Cond) (oa : Addr) (po : Int32) (pv : Int32) (ob : Addr) (pg : Nat → Int32) (ni : Nat) (h0 : Heap) (n0 : Nat) (Z0 : n0 ≤ h0.size) (F_oa_bytes : Fld Z h0 oa "com/example/javelot/javelot/classfile/ByteWriter" "bytes" "[B" (.ref ob)) (A_ob : AI Z h0 ob .byte 256 pg) (hj : po.toInt = (ni : Int)) (hi : ni < 7) (ne_oa_ob : oa ≠ ob) (g_ob : n0 ≤ ob) :
    MetFree l (⟨"com/example/javelot/javelot/classfile/ByteWriter", "putU2", "(II)V"⟩ : MethodName) (head1 (Jvm.Cond.code (⟨"com/example/javelot/javelot/classfile/ByteWriter", "putU2", "(II)V"⟩ : MethodName) prog_1_method_5_code 3 none :: ws) ({ frames := 0, cells := 0, slots := 0, locals := 0 } : Room)) (fun a U => a = #[(.ref oa), (.int po), (.int pv)] ∧ Z.Warmed39 U.vm ∧ U.heap = h0) (fun _ _ _ _ _ => True) (fun _ U o U' => ∃ v L, o = .returned v ∧ Q5 Z oa po pv ob pg ni h0 n0 v U'.heap L ∧ FrameEnd U o U' L ({ frames := 0, cells := 0, slots := 0, locals := 0 } : Room).cells ({ frames := 0, cells := 0, slots := 0, locals := 0 } : Room).slots) := by
  refine MetFree.of_bodySF (plainFor_of_name pn_0) hisR ?_
  intro p e s m args below meth c s₁ Bd hml0 hP hK
  obtain ⟨rfl, hZ, hh⟩ := hP
  have hx := Bd.exec
  have hby := Bd.bytes
  have hml : c.maxLocals = 3 := hml0
  have hown : s.vm.findClass "com/example/javelot/javelot/classfile/ByteWriter" = some m.cls := findClass_of_methodNamed Bd.named
  have hnm := (name_of_methodNamed Bd.named Bd.method).1
  have X0 : Stand p l e ({ frames := 0, cells := 0, slots := 0, locals := 0 } : Room) s m #[(.ref oa), (.int po), (.int pv)] below meth c s₁ [] 0 0 := Stand.of_body Bd
  have e0 : s₁.heap = h0 := by rw [← hh, Bd.state]; rfl
  have N0 := Fr.nil n0
  refine Goes.by (fun _ k => castTop (ef5 m oa po pv) k) ?_
  show Goes p.tables e below (s₁.setTop (mkF m 0 #[.val (.ref oa), .val (.int po), .val (.int pv)] [])) _
  refine Goes.by (fun _ k => XS.aloadN X0.here hx rfl (hb hby d5_0) rfl rfl k) ?_
  show Goes p.tables e below (s₁.setTop (mkF m 1 #[.val (.ref oa), .val (.int po), .val (.int pv)] [(.ref oa)])) _
  obtain ⟨T1, X1, e1, st1⟩ := getF X0 hx hZ hown (host := "") (Or.inl (hw _ (List.mem_of_getElem? (i := 11) rfl))) Via.refl e0 F_oa_bytes (g := (mkF m 1 #[.val (.ref oa), .val (.int po), .val (.int pv)] [(.ref oa)])) rfl rfl (hb hby d5_1)
  refine Goes.by st1 ?_
  show Goes p.tables e below (T1.setTop (mkF m 4 #[.val (.ref oa), .val (.int po), .val (.int pv)] [(.ref ob)])) _
  refine Goes.by (fun _ k => XS.iloadN X1.here hx rfl (hb hby d5_4) rfl k) ?_
  show Goes p.tables e below (T1.setTop (mkF m 5 #[.val (.ref oa), .val (.int po), .val (.int pv)] [(.int po), (.ref ob)])) _
  refine Goes.by (fun _ k => XS.iloadN X1.here hx rfl (hb hby d5_5) rfl k) ?_
  show Goes p.tables e below (T1.setTop (mkF m 6 #[.val (.ref oa), .val (.int po), .val (.int pv)] [(.int pv), (.int po), (.ref ob)])) _
  refine Goes.by (fun _ k => XS.bipush X1.here hx rfl (hb hby d5_6) k) ?_
  show Goes p.tables e below (T1.setTop (mkF m 8 #[.val (.ref oa), .val (.int po), .val (.int pv)] [(.int (8 : Int32)), (.int pv), (.int po), (.ref ob)])) _
  refine Goes.by (fun _ k => XS.iushr X1.here hx rfl (hb hby d5_8) rfl k) ?_
  show Goes p.tables e below (T1.setTop (mkF m 9 #[.val (.ref oa), .val (.int po), .val (.int pv)] [(.int ((pv.toUInt32 >>> ((8 : Int32) &&& 31).toUInt32).toInt32)), (.int po), (.ref ob)])) _
  refine Goes.by (fun _ k => XS.i2b X1.here hx rfl (hb hby d5_9) rfl k) ?_
  show Goes p.tables e below (T1.setTop (mkF m 10 #[.val (.ref oa), .val (.int po), .val (.int pv)] [(.int (((pv.toUInt32 >>> ((8 : Int32) &&& 31).toUInt32).toInt32).toInt8.toInt32)), (.int po), (.ref ob)])) _
  obtain ⟨T2, h2, X2, e2, W2, A2, st2⟩ := stAB (fr := (mkF m 10 #[.val (.ref oa), .val (.int po), .val (.int pv)] [(.int (((pv.toUInt32 >>> ((8 : Int32) &&& 31).toUInt32).toInt32).toInt8.toInt32)), (.int po), (.ref ob)])) X1 hx hZ e1 A_ob (i := ni) hj (by omega) rfl rfl (hb hby d5_10)
  refine Goes.by st2 ?_
  have A_ob : AI Z h2 ob .byte 256 (up pg ni ((((pv.toUInt32 >>> ((8 : Int32) &&& 31).toUInt32).toInt32).toInt8.toInt32).toInt8.toInt32)) := A2
  have N2 := Fr.snoc X2 N0 g_ob
  have Zs2 : n0 ≤ h2.size := Nat.le_trans Z0 (Keep.of_wr W2).1
  have K2 : Keep h0 h2 [ob] := (Keep.refl h0 [ob]).wr W2 (Or.inl (List.mem_of_getElem? (i := 0) rfl))
  have F_oa_bytes : Fld Z h2 oa "com/example/javelot/javelot/classfile/ByteWriter" "bytes" "[B" (.ref ob) := F_oa_bytes.other W2 (Or.inl ne_oa_ob)
  show Goes p.tables e below (T2.setTop (mkF m 11 #[.val (.ref oa), .val (.int po), .val (.int pv)] [])) _
  refine Goes.by (fun _ k => XS.aloadN X2.here hx rfl (hb hby d5_11) rfl rfl k) ?_
  show Goes p.tables e below (T2.setTop (mkF m 12 #[.val (.ref oa), .val (.int po), .val (.int pv)] [(.ref oa)])) _
  obtain ⟨T3, X3, e3, st3⟩ := getF X2 hx hZ hown (host := "") (Or.inl (hw _ (List.mem_of_getElem? (i := 11) rfl))) Via.refl e2 F_oa_bytes (g := (mkF m 12 #[.val (.ref oa), .val (.int po), .val (.int pv)] [(.ref oa)])) rfl rfl (hb hby d5_12)
  refine Goes.by st3 ?_
  show Goes p.tables e below (T3.setTop (mkF m 15 #[.val (.ref oa), .val (.int po), .val (.int pv)] [(.ref ob)])) _
  refine Goes.by (fun _ k => XS.iloadN X3.here hx rfl (hb hby d5_15) rfl k) ?_
  show Goes p.tables e below (T3.setTop (mkF m 16 #[.val (.ref oa), .val (.int po), .val (.int pv)] [(.int po), (.ref ob)])) _
  refine Goes.by (fun _ k => XS.iconst X3.here hx rfl (hb hby d5_16) k) ?_
  show Goes p.tables e below (T3.setTop (mkF m 17 #[.val (.ref oa), .val (.int po), .val (.int pv)] [(.int (1 : Int32)), (.int po), (.ref ob)])) _
  refine Goes.by (fun _ k => XS.iadd X3.here hx rfl (hb hby d5_17) rfl k) ?_
  show Goes p.tables e below (T3.setTop (mkF m 18 #[.val (.ref oa), .val (.int po), .val (.int pv)] [(.int (po + (1 : Int32))), (.ref ob)])) _
  refine Goes.by (fun _ k => XS.iloadN X3.here hx rfl (hb hby d5_18) rfl k) ?_
  show Goes p.tables e below (T3.setTop (mkF m 19 #[.val (.ref oa), .val (.int po), .val (.int pv)] [(.int pv), (.int (po + (1 : Int32))), (.ref ob)])) _
  refine Goes.by (fun _ k => XS.i2b X3.here hx rfl (hb hby d5_19) rfl k) ?_
  show Goes p.tables e below (T3.setTop (mkF m 20 #[.val (.ref oa), .val (.int po), .val (.int pv)] [(.int (pv.toInt8.toInt32)), (.int (po + (1 : Int32))), (.ref ob)])) _
  obtain ⟨T4, h4, X4, e4, W4, A4, st4⟩ := stAB (fr := (mkF m 20 #[.val (.ref oa), .val (.int po), .val (.int pv)] [(.int (pv.toInt8.toInt32)), (.int (po + (1 : Int32))), (.ref ob)])) X3 hx hZ e3 A_ob (i := (ni + 1)) (by have a := c_iadd po 1; have e1 : (1 : Int32).toInt = 1 := rfl; have r := rng32 (po + 1); rw [e1] at a; push_cast; omega) (by omega) rfl rfl (hb hby d5_20)
  refine Goes.by st4 ?_
  have A_ob : AI Z h4 ob .byte 256 (up (up pg ni ((((pv.toUInt32 >>> ((8 : Int32) &&& 31).toUInt32).toInt32).toInt8.toInt32).toInt8.toInt32)) (ni + 1) ((pv.toInt8.toInt32).toInt8.toInt32)) := A4
  have N4 := Fr.snoc X4 N2 g_ob
  have Zs4 : n0 ≤ h4.size := Nat.le_trans Zs2 (Keep.of_wr W4).1
  have K4 : Keep h0 h4 [ob] := K2.wr W4 (Or.inl (List.mem_of_getElem? (i := 0) rfl))
  have F_oa_bytes : Fld Z h4 oa "com/example/javelot/javelot/classfile/ByteWriter" "bytes" "[B" (.ref ob) := F_oa_bytes.other W4 (Or.inl ne_oa_ob)
  show Goes p.tables e below (T4.setTop (mkF m 21 #[.val (.ref oa), .val (.int po), .val (.int pv)] [])) _
  obtain ⟨fs, hr, hrun, hended, hW, hsame⟩ := X4.leave (v := none) (fun _ => rfl)
  refine ⟨_, _, X4.returnOut hx Bd.returns (hb hby d5_21) hr, hrun, hended, _, _, rfl, ?_, ⟨_, rfl⟩, hW, hsame.mono (by decide) (by decide)⟩
  show Q5 Z oa po pv ob pg ni h0 n0 _ T4.heap _
  rw [e4]
  exact ⟨rfl, N4, K4, A_ob⟩
theorem d6_0 : decode prog_1_method_8_code 0 = .ok (.aload_n 0, 1) := by decide +kernel
theorem d6_1 : decode prog_1_method_8_code 1 = .ok (.getfield 17, 3) := by decide +kernel
theorem d6_4 : decode prog_1_method_8_code 4 = .ok (.ireturn, 1) := by decide +kernel
theorem ef6 (m : MethodId) (oa : Addr) : entryFrame m #[(.ref oa)] 1 = mkF m 0 #[.val (.ref oa)] [] := by first | (simp [entryFrame, mkF, argsToLocals, Value.category]; done) | rfl
def Q6 (Z : State) (oa : Addr) (us : Int32) (h0 : Heap) (n0 : Nat) (v : Option Value) (h : Heap) (L : List Loc) : Prop := v = some (.int us) ∧ Fr n0 L ∧ h = h0
set_option maxRecDepth 65536 in
set_option maxHeartbeats 40000000 in
theorem rm6 (l : Launch) (Z : State) (a0 : Array Value) (hw : ∀ d ∈ tables_1, d.before a0 Z = true) (ws : List Jvm.Cond) (oa : Addr) (us : Int32) (h0 : Heap) (n0 : Nat) (Z0 : n0 ≤ h0.size) (F_oa_size : Fld Z h0 oa "com/example/javelot/javelot/classfile/ByteWriter" "size" "I" (.int us)) :
    MetFree l (⟨"com/example/javelot/javelot/classfile/ByteWriter", "size", "()I"⟩ : MethodName) (head1 (Jvm.Cond.code (⟨"com/example/javelot/javelot/classfile/ByteWriter", "size", "()I"⟩ : MethodName) prog_1_method_8_code 1 (some .int) :: ws) ({ frames := 0, cells := 0, slots := 0, locals := 0 } : Room)) (fun a U => a = #[(.ref oa)] ∧ Z.Warmed39 U.vm ∧ U.heap = h0) (fun _ _ _ _ _ => True) (fun _ U o U' => ∃ v L, o = .returned v ∧ Q6 Z oa us h0 n0 v U'.heap L ∧ FrameEnd U o U' L ({ frames := 0, cells := 0, slots := 0, locals := 0 } : Room).cells ({ frames := 0, cells := 0, slots := 0, locals := 0 } : Room).slots) := by
  refine MetFree.of_bodySF (plainFor_of_name pn_0) hisR ?_
  intro p e s m args below meth c s₁ Bd hml0 hP hK
  obtain ⟨rfl, hZ, hh⟩ := hP
  have hx := Bd.exec
  have hby := Bd.bytes
  have hml : c.maxLocals = 1 := hml0
  have hown : s.vm.findClass "com/example/javelot/javelot/classfile/ByteWriter" = some m.cls := findClass_of_methodNamed Bd.named
  have hnm := (name_of_methodNamed Bd.named Bd.method).1
  have X0 : Stand p l e ({ frames := 0, cells := 0, slots := 0, locals := 0 } : Room) s m #[(.ref oa)] below meth c s₁ [] 0 0 := Stand.of_body Bd
  have e0 : s₁.heap = h0 := by rw [← hh, Bd.state]; rfl
  have N0 := Fr.nil n0
  refine Goes.by (fun _ k => castTop (ef6 m oa) k) ?_
  show Goes p.tables e below (s₁.setTop (mkF m 0 #[.val (.ref oa)] [])) _
  refine Goes.by (fun _ k => XS.aloadN X0.here hx rfl (hb hby d6_0) rfl rfl k) ?_
  show Goes p.tables e below (s₁.setTop (mkF m 1 #[.val (.ref oa)] [(.ref oa)])) _
  obtain ⟨T1, X1, e1, st1⟩ := getF X0 hx hZ hown (host := "") (Or.inl (hw _ (List.mem_of_getElem? (i := 22) rfl))) Via.refl e0 F_oa_size (g := (mkF m 1 #[.val (.ref oa)] [(.ref oa)])) rfl rfl (hb hby d6_1)
  refine Goes.by st1 ?_
  show Goes p.tables e below (T1.setTop (mkF m 4 #[.val (.ref oa)] [(.int us)])) _
  obtain ⟨fs, hr, hrun, hended, hW, hsame⟩ := X1.leave (v := some (.int us)) (fun h => by rw [Bd.returns] at h; cases h)
  refine ⟨_, _, retI X1 hx Bd.returns (hb hby d6_4) hr, hrun, hended, _, _, rfl, ?_, ⟨_, rfl⟩, hW, hsame.mono (by decide) (by decide)⟩
  show Q6 Z oa us h0 n0 _ T1.heap _
  rw [e1]
  exact ⟨rfl, N0, rfl⟩
theorem d9_0 : decode jdk_29_method_69_code 0 = .ok (.iload_n 0, 1) := by decide +kernel
theorem d9_1 : decode jdk_29_method_69_code 1 = .ok (.iload_n 1, 1) := by decide +kernel
theorem d9_2 : decode jdk_29_method_69_code 2 = .ok (.if_icmp .gt 7, 3) := by decide +kernel
theorem d9_9 : decode jdk_29_method_69_code 9 = .ok (.iload_n 1, 1) := by decide +kernel
theorem d9_10 : decode jdk_29_method_69_code 10 = .ok (.ireturn, 1) := by decide +kernel
theorem d9_5 : decode jdk_29_method_69_code 5 = .ok (.iload_n 0, 1) := by decide +kernel
theorem d9_6 : decode jdk_29_method_69_code 6 = .ok (.goto 4, 3) := by decide +kernel
def fn9 (pa : Int32) (pb : Int32) : Int32 := (if pb < pa then pb else pa)
theorem ef9 (m : MethodId) (pa : Int32) (pb : Int32) : entryFrame m #[(.int pa), (.int pb)] 2 = mkF m 0 #[.val (.int pa), .val (.int pb)] [] := by first | (simp [entryFrame, mkF, argsToLocals, Value.category]; done) | rfl
def Q9 (Z : State) (pa : Int32) (pb : Int32) (h0 : Heap) (n0 : Nat) (v : Option Value) (h : Heap) (L : List Loc) : Prop := v = some (.int (fn9 pa pb)) ∧ Fr n0 L ∧ h = h0
set_option maxRecDepth 65536 in
set_option maxHeartbeats 40000000 in
theorem rm9 (l : Launch) (Z : State) (a0 : Array Value) (hw : ∀ d ∈ tables_1, d.before a0 Z = true) (ws : List Jvm.Cond) (pa : Int32) (pb : Int32) (h0 : Heap) (n0 : Nat) (Z0 : n0 ≤ h0.size) :
    MetFree l (⟨"java/lang/Math", "min", "(II)I"⟩ : MethodName) (head1 (Jvm.Cond.code (⟨"java/lang/Math", "min", "(II)I"⟩ : MethodName) jdk_29_method_69_code 2 (some .int) :: ws) ({ frames := 0, cells := 0, slots := 0, locals := 0 } : Room)) (fun a U => a = #[(.int pa), (.int pb)] ∧ Z.Warmed39 U.vm ∧ U.heap = h0) (fun _ _ _ _ _ => True) (fun _ U o U' => ∃ v L, o = .returned v ∧ Q9 Z pa pb h0 n0 v U'.heap L ∧ FrameEnd U o U' L ({ frames := 0, cells := 0, slots := 0, locals := 0 } : Room).cells ({ frames := 0, cells := 0, slots := 0, locals := 0 } : Room).slots) := by
  refine MetFree.of_bodySF (Jvm.Free.JP.mathPlain rfl (by decide +kernel)) hisR ?_
  intro p e s m args below meth c s₁ Bd hml0 hP hK
  obtain ⟨rfl, hZ, hh⟩ := hP
  have hx := Bd.exec
  have hby := Bd.bytes
  have hml : c.maxLocals = 2 := hml0
  have hown : s.vm.findClass "java/lang/Math" = some m.cls := findClass_of_methodNamed Bd.named
  have hnm := (name_of_methodNamed Bd.named Bd.method).1
  have X0 : Stand p l e ({ frames := 0, cells := 0, slots := 0, locals := 0 } : Room) s m #[(.int pa), (.int pb)] below meth c s₁ [] 0 0 := Stand.of_body Bd
  have e0 : s₁.heap = h0 := by rw [← hh, Bd.state]; rfl
  have N0 := Fr.nil n0
  refine Goes.by (fun _ k => castTop (ef9 m pa pb) k) ?_
  show Goes p.tables e below (s₁.setTop (mkF m 0 #[.val (.int pa), .val (.int pb)] [])) _
  refine Goes.by (fun _ k => XS.iloadN X0.here hx rfl (hb hby d9_0) rfl k) ?_
  show Goes p.tables e below (s₁.setTop (mkF m 1 #[.val (.int pa), .val (.int pb)] [(.int pa)])) _
  refine Goes.by (fun _ k => XS.iloadN X0.here hx rfl (hb hby d9_1) rfl k) ?_
  show Goes p.tables e below (s₁.setTop (mkF m 2 #[.val (.int pa), .val (.int pb)] [(.int pb), (.int pa)])) _
  by_cases hc1 : pb < pa
  · refine Goes.by (fun _ k => XS.icmpYes X0.here hx rfl (pc0 := 2) (pc' := 9) rfl (hb hby d9_2) rfl (tlt hc1).2.2.1 (by decide) (by decide) k) ?_
    show Goes p.tables e below (s₁.setTop (mkF m 9 #[.val (.int pa), .val (.int pb)] [])) _
    refine Goes.by (fun _ k => XS.iloadN X0.here hx rfl (hb hby d9_9) rfl k) ?_
    show Goes p.tables e below (s₁.setTop (mkF m 10 #[.val (.int pa), .val (.int pb)] [(.int pb)])) _
    obtain ⟨fs, hr, hrun, hended, hW, hsame⟩ := X0.leave (v := some (.int pb)) (fun h => by rw [Bd.returns] at h; cases h)
    refine ⟨_, _, retI X0 hx Bd.returns (hb hby d9_10) hr, hrun, hended, _, _, rfl, ?_, ⟨_, rfl⟩, hW, hsame.mono (by decide) (by decide)⟩
    show Q9 Z pa pb h0 n0 _ s₁.heap _
    rw [e0]
    exact ⟨(by rw [fn9, if_pos hc1]), N0, rfl⟩
  · refine Goes.by (fun _ k => XS.icmpNo X0.here hx rfl (hb hby d9_2) rfl (flt hc1).2.2.1 k) ?_
    show Goes p.tables e below (s₁.setTop (mkF m 5 #[.val (.int pa), .val (.int pb)] [])) _
    refine Goes.by (fun _ k => XS.iloadN X0.here hx rfl (hb hby d9_5) rfl k) ?_
    show Goes p.tables e below (s₁.setTop (mkF m 6 #[.val (.int pa), .val (.int pb)] [(.int pa)])) _
    refine Goes.by (fun _ k => XS.goto X0.here hx rfl (pc0 := 6) (pc' := 10) rfl (hb hby d9_6) (by decide) (by decide) k) ?_
    show Goes p.tables e below (s₁.setTop (mkF m 10 #[.val (.int pa), .val (.int pb)] [(.int pa)])) _
    obtain ⟨fs, hr, hrun, hended, hW, hsame⟩ := X0.leave (v := some (.int pa)) (fun h => by rw [Bd.returns] at h; cases h)
    refine ⟨_, _, retI X0 hx Bd.returns (hb hby d9_10) hr, hrun, hended, _, _, rfl, ?_, ⟨_, rfl⟩, hW, hsame.mono (by decide) (by decide)⟩
    show Q9 Z pa pb h0 n0 _ s₁.heap _
    rw [e0]
    exact ⟨(by rw [fn9, if_neg hc1]), N0, rfl⟩
theorem d8_0 : decode jdk_65_method_121_code 0 = .ok (.iload_n 1, 1) := by decide +kernel
theorem d8_1 : decode jdk_65_method_121_code 1 = .ok (.aload_n 0, 1) := by decide +kernel
theorem d8_2 : decode jdk_65_method_121_code 2 = .ok (.arraylength, 1) := by decide +kernel
theorem d8_3 : decode jdk_65_method_121_code 3 = .ok (.if_icmp .ne 11, 3) := by decide +kernel
theorem d8_14 : decode jdk_65_method_121_code 14 = .ok (.iload_n 1, 1) := by decide +kernel
theorem d8_15 : decode jdk_65_method_121_code 15 = .ok (.newarray .byte, 2) := by decide +kernel
theorem d8_17 : decode jdk_65_method_121_code 17 = .ok (.astore_n 2, 1) := by decide +kernel
theorem d8_18 : decode jdk_65_method_121_code 18 = .ok (.aload_n 0, 1) := by decide +kernel
theorem d8_19 : decode jdk_65_method_121_code 19 = .ok (.iconst 0, 1) := by decide +kernel
theorem d8_20 : decode jdk_65_method_121_code 20 = .ok (.aload_n 2, 1) := by decide +kernel
theorem d8_21 : decode jdk_65_method_121_code 21 = .ok (.iconst 0, 1) := by decide +kernel
theorem d8_22 : decode jdk_65_method_121_code 22 = .ok (.aload_n 0, 1) := by decide +kernel
theorem d8_23 : decode jdk_65_method_121_code 23 = .ok (.arraylength, 1) := by decide +kernel
theorem d8_24 : decode jdk_65_method_121_code 24 = .ok (.iload_n 1, 1) := by decide +kernel
theorem d8_25 : decode jdk_65_method_121_code 25 = .ok (.invokestatic 304, 3) := by decide +kernel
theorem pd_1 : parseMethodDescriptor "(II)I" = some ⟨[.int, .int], some .int⟩ := by decide +kernel
theorem d8_28 : decode jdk_65_method_121_code 28 = .ok (.invokestatic 150, 3) := by decide +kernel
theorem d8_31 : decode jdk_65_method_121_code 31 = .ok (.aload_n 2, 1) := by decide +kernel
theorem d8_32 : decode jdk_65_method_121_code 32 = .ok (.areturn, 1) := by decide +kernel
theorem pn_1 : plainName "java/util/Arrays" = true := by first | (simp [plainName, overriddenIn]; done) | decide +kernel
theorem ef8 (m : MethodId) (ob : Addr) (pn : Int32) : entryFrame m #[(.ref ob), (.int pn)] 3 = mkF m 0 #[.val (.ref ob), .val (.int pn), .unset] [] := by first | (simp [entryFrame, mkF, argsToLocals, Value.category]; done) | rfl
def Q8 (Z : State) (ob : Addr) (pn : Int32) (pg : Nat → Int32) (h0 : Heap) (n0 : Nat) (v : Option Value) (h : Heap) (L : List Loc) : Prop := ∃ oc : Addr, v = some (.ref oc) ∧ Fr n0 L ∧ Keep h0 h [] ∧ AI Z h oc .byte 8 (fun j => if j < 8 then pg j else (fun _ => (0 : Int32)) j) ∧ (h0.size ≤ oc)
set_option maxRecDepth 65536 in
set_option maxHeartbeats 40000000 in
theorem rm8 (l : Launch) (Z : State) (a0 : Array Value) (hw : ∀ d ∈ tables_1, d.before a0 Z = true) (ws : List Jvm.Cond) (ob : Addr) (pn : Int32) (pg : Nat → Int32) (h0 : Heap) (n0 : Nat) (Z0 : n0 ≤ h0.size) (A_ob : AI Z h0 ob .byte 256 pg) (hpn : pn = (8 : Int32)) :
    MetFree l (⟨"java/util/Arrays", "copyOf", "([BI)[B"⟩ : MethodName) (head1 (Jvm.Cond.code (⟨"java/util/Arrays", "copyOf", "([BI)[B"⟩ : MethodName) jdk_65_method_121_code 3 (some (.array .byte)) :: ws) ({ frames := 1, cells := 1, slots := 8, locals := 18 } : Room)) (fun a U => a = #[(.ref ob), (.int pn)] ∧ Z.Warmed39 U.vm ∧ U.heap = h0) (fun _ _ _ _ _ => True) (fun _ U o U' => ∃ v L, o = .returned v ∧ Q8 Z ob pn pg h0 n0 v U'.heap L ∧ FrameEnd U o U' L ({ frames := 1, cells := 1, slots := 8, locals := 18 } : Room).cells ({ frames := 1, cells := 1, slots := 8, locals := 18 } : Room).slots) := by
  refine MetFree.of_bodySF (plainFor_of_name pn_1) hisR ?_
  intro p e s m args below meth c s₁ Bd hml0 hP hK
  obtain ⟨rfl, hZ, hh⟩ := hP
  have hx := Bd.exec
  have hby := Bd.bytes
  have hml : c.maxLocals = 3 := hml0
  have hown : s.vm.findClass "java/util/Arrays" = some m.cls := findClass_of_methodNamed Bd.named
  have hnm := (name_of_methodNamed Bd.named Bd.method).1
  have X0 : Stand p l e ({ frames := 1, cells := 1, slots := 8, locals := 18 } : Room) s m #[(.ref ob), (.int pn)] below meth c s₁ [] 0 0 := Stand.of_body Bd
  have e0 : s₁.heap = h0 := by rw [← hh, Bd.state]; rfl
  have N0 := Fr.nil n0
  refine Goes.by (fun _ k => castTop (ef8 m ob pn) k) ?_
  show Goes p.tables e below (s₁.setTop (mkF m 0 #[.val (.ref ob), .val (.int pn), .unset] [])) _
  refine Goes.by (fun _ k => XS.iloadN X0.here hx rfl (hb hby d8_0) rfl k) ?_
  show Goes p.tables e below (s₁.setTop (mkF m 1 #[.val (.ref ob), .val (.int pn), .unset] [(.int pn)])) _
  refine Goes.by (fun _ k => XS.aloadN X0.here hx rfl (hb hby d8_1) rfl rfl k) ?_
  show Goes p.tables e below (s₁.setTop (mkF m 2 #[.val (.ref ob), .val (.int pn), .unset] [(.ref ob), (.int pn)])) _
  refine Goes.by (fun _ k => alen (z := (256 : Int32)) (fr := (mkF m 2 #[.val (.ref ob), .val (.int pn), .unset] [(.ref ob), (.int pn)])) X0 hx hZ e0 A_ob (by decide) rfl rfl (hb hby d8_2) k) ?_
  show Goes p.tables e below (s₁.setTop (mkF m 3 #[.val (.ref ob), .val (.int pn), .unset] [(.int (256 : Int32)), (.int pn)])) _
  refine Goes.by (fun _ k => XS.icmpYes X0.here hx rfl (pc0 := 3) (pc' := 14) rfl (hb hby d8_3) rfl (feq (by rw [hpn]; decide : ¬ (pn = (256 : Int32)))).2 (by decide) (by decide) k) ?_
  show Goes p.tables e below (s₁.setTop (mkF m 14 #[.val (.ref ob), .val (.int pn), .unset] [])) _
  refine Goes.by (fun _ k => XS.iloadN X0.here hx rfl (hb hby d8_14) rfl k) ?_
  show Goes p.tables e below (s₁.setTop (mkF m 15 #[.val (.ref ob), .val (.int pn), .unset] [(.int pn)])) _
  obtain ⟨T1, h1, X1, e1, E1, A1, st1⟩ := nwA (n := 8) (cap := 8) (fr := (mkF m 15 #[.val (.ref ob), .val (.int pn), .unset] [(.int pn)])) X0 hx hZ (hw _ (List.mem_of_getElem? (i := 10) rfl)) e0 (by rw [hpn]; rfl) (by decide) (by decide) (by decide) (by decide) rfl rfl (hb hby d8_15)
  obtain ⟨b1, g1⟩ : ∃ z, z = h0.size := ⟨_, rfl⟩
  rw [← g1] at A1 st1
  have g_b1 : n0 ≤ b1 := Nat.le_trans Z0 (Nat.le_of_eq g1.symm)
  have sz_b1 : h0.size ≤ b1 := Nat.le_trans (Keep.refl h0 []).1 (Nat.le_of_eq g1.symm)
  have ne_ob_b1 : ob ≠ b1 := Nat.ne_of_lt (Nat.lt_of_lt_of_le A_ob.lt (Nat.le_of_eq g1.symm))
  have Zs1 : n0 ≤ h1.size := Nat.le_trans Z0 E1.1
  have K1 : Keep h0 h1 [] := (Keep.refl h0 []).ext E1
  refine Goes.by st1 ?_
  have A_ob : AI Z h1 ob .byte 256 pg := A_ob.ext E1
  have A_b1 : AI Z h1 b1 .byte 8 (fun _ => (0 : Int32)) := A1
  show Goes p.tables e below (T1.setTop (mkF m 17 #[.val (.ref ob), .val (.int pn), .unset] [(.ref b1)])) _
  refine Goes.by (fun _ k => XS.astoreN X1.here hx rfl (hb hby d8_17) rfl rfl (l' := #[.val (.ref ob), .val (.int pn), .val (.ref b1)]) rfl k) ?_
  show Goes p.tables e below (T1.setTop (mkF m 18 #[.val (.ref ob), .val (.int pn), .val (.ref b1)] [])) _
  refine Goes.by (fun _ k => XS.aloadN X1.here hx rfl (hb hby d8_18) rfl rfl k) ?_
  show Goes p.tables e below (T1.setTop (mkF m 19 #[.val (.ref ob), .val (.int pn), .val (.ref b1)] [(.ref ob)])) _
  refine Goes.by (fun _ k => XS.iconst X1.here hx rfl (hb hby d8_19) k) ?_
  show Goes p.tables e below (T1.setTop (mkF m 20 #[.val (.ref ob), .val (.int pn), .val (.ref b1)] [(.int (0 : Int32)), (.ref ob)])) _
  refine Goes.by (fun _ k => XS.aloadN X1.here hx rfl (hb hby d8_20) rfl rfl k) ?_
  show Goes p.tables e below (T1.setTop (mkF m 21 #[.val (.ref ob), .val (.int pn), .val (.ref b1)] [(.ref b1), (.int (0 : Int32)), (.ref ob)])) _
  refine Goes.by (fun _ k => XS.iconst X1.here hx rfl (hb hby d8_21) k) ?_
  show Goes p.tables e below (T1.setTop (mkF m 22 #[.val (.ref ob), .val (.int pn), .val (.ref b1)] [(.int (0 : Int32)), (.ref b1), (.int (0 : Int32)), (.ref ob)])) _
  refine Goes.by (fun _ k => XS.aloadN X1.here hx rfl (hb hby d8_22) rfl rfl k) ?_
  show Goes p.tables e below (T1.setTop (mkF m 23 #[.val (.ref ob), .val (.int pn), .val (.ref b1)] [(.ref ob), (.int (0 : Int32)), (.ref b1), (.int (0 : Int32)), (.ref ob)])) _
  refine Goes.by (fun _ k => alen (z := (256 : Int32)) (fr := (mkF m 23 #[.val (.ref ob), .val (.int pn), .val (.ref b1)] [(.ref ob), (.int (0 : Int32)), (.ref b1), (.int (0 : Int32)), (.ref ob)])) X1 hx hZ e1 A_ob (by decide) rfl rfl (hb hby d8_23) k) ?_
  show Goes p.tables e below (T1.setTop (mkF m 24 #[.val (.ref ob), .val (.int pn), .val (.ref b1)] [(.int (256 : Int32)), (.int (0 : Int32)), (.ref b1), (.int (0 : Int32)), (.ref ob)])) _
  refine Goes.by (fun _ k => XS.iloadN X1.here hx rfl (hb hby d8_24) rfl k) ?_
  show Goes p.tables e below (T1.setTop (mkF m 25 #[.val (.ref ob), .val (.int pn), .val (.ref b1)] [(.int pn), (.int (256 : Int32)), (.int (0 : Int32)), (.ref b1), (.int (0 : Int32)), (.ref ob)])) _
  obtain ⟨_, _, ⟨T2, L2, k2, n2⟩, -, X2, ⟨Lc2, hQ2, l2, y2, z2⟩, st2⟩ := Jvm.LawKit.callS X1 hx (y := (⟨"java/lang/Math", "min", "(II)I"⟩ : MethodName)) hown (mvT hZ (hw _ (List.mem_of_getElem? (i := 43) rfl))) (mvT hZ (hw _ (List.mem_of_getElem? (i := 44) rfl))) (mvT hZ (hw _ (List.mem_of_getElem? (i := 45) rfl))) (mvT hZ (hw _ (List.mem_of_getElem? (i := 46) rfl))) (by decide) (backOf (W := 4) (rm9 l Z a0 hw [] (256 : Int32) pn h1 n0 Zs1) hZ (hw _ (List.mem_of_getElem? (i := 46) rfl)) (hw _ (List.mem_of_getElem? (i := 45) rfl)) (by decide) (by decide)) (g := (mkF m 25 #[.val (.ref ob), .val (.int pn), .val (.ref b1)] [(.int pn), (.int (256 : Int32)), (.int (0 : Int32)), (.ref b1), (.int (0 : Int32)), (.ref ob)])) rfl (by rw [hml]; rfl) (argsL := [(.int (256 : Int32)), (.int pn)]) (rest := [(.int (0 : Int32)), (.ref b1), (.int (0 : Int32)), (.ref ob)]) (lenOf pd_1 rfl) rfl (by show 2 * 0 + _ ≤ _; exact Nat.le_of_eq rfl) (hb hby d8_25) (fun _ _ => ⟨rfl, e1, (by decide : 1 + 0 ≤ _), (by decide : 8 + 0 ≤ _)⟩)
  dsimp only [Pt.U, Pt.locs, Pt.cells, Pt.slots] at X2 l2 y2 z2 st2 hQ2
  subst l2 y2 z2
  obtain ⟨rfl, N2q, e2⟩ := hQ2
  have N2 := Fr.app N0 N2q
  refine Goes.by st2 ?_
  show Goes p.tables e below (T2.setTop (mkF m 28 #[.val (.ref ob), .val (.int pn), .val (.ref b1)] [(.int (fn9 (256 : Int32) pn)), (.int (0 : Int32)), (.ref b1), (.int (0 : Int32)), (.ref ob)])) _
  obtain ⟨T3, h3, L3, X3, e3, N3, Kq3, A3, st3⟩ := cpAr (fr := (mkF m 28 #[.val (.ref ob), .val (.int pn), .val (.ref b1)] [(.int (fn9 (256 : Int32) pn)), (.int (0 : Int32)), (.ref b1), (.int (0 : Int32)), (.ref ob)])) (k := 8) (W := 0) X2 hx hZ hown (hw _ (List.mem_of_getElem? (i := 47) rfl)) (hw _ (List.mem_of_getElem? (i := 50) rfl)) (hw _ (List.mem_of_getElem? (i := 48) rfl)) (hw _ (List.mem_of_getElem? (i := 49) rfl)) e2 A_ob A_b1 rfl (by rw [hpn]; rfl) (by decide) (by decide) N2 g_b1 rfl (by rw [hml]; rfl) rfl (hb hby d8_28) (by decide) (by show 2 * 0 + _ ≤ _; exact Nat.le_of_eq rfl) (by decide)
  refine Goes.by st3 ?_
  have Zs3 : n0 ≤ h3.size := Nat.le_trans Zs1 Kq3.1
  have K3 : Keep h0 h3 [] := K1.trans Kq3 (allS (Or.inr sz_b1) all0)
  have A_ob : AI Z h3 ob .byte 256 pg := A_ob.keep Kq3 (ninS ne_ob_b1 nin0)
  have A_b1 : AI Z h3 b1 .byte 8 (fun j => if j < 8 then pg j else (fun _ => (0 : Int32)) j) := Ar.congr A3 fun j _ => by dsimp only; split <;> rfl
  show Goes p.tables e below (T3.setTop (mkF m 31 #[.val (.ref ob), .val (.int pn), .val (.ref b1)] [])) _
  refine Goes.by (fun _ k => XS.aloadN X3.here hx rfl (hb hby d8_31) rfl rfl k) ?_
  show Goes p.tables e below (T3.setTop (mkF m 32 #[.val (.ref ob), .val (.int pn), .val (.ref b1)] [(.ref b1)])) _
  obtain ⟨fs, hr, hrun, hended, hW, hsame⟩ := X3.leave (v := some (.ref b1)) (fun h => by rw [Bd.returns] at h; cases h)
  refine ⟨_, _, retOut X3 hx Bd.returns (i := .areturn) (narR rfl) (Or.inr (Or.inr (Or.inr (Or.inr ⟨rfl, rfl, rfl⟩)))) (hb hby d8_32) hr, hrun, hended, _, _, rfl, ?_, ⟨_, rfl⟩, hW, hsame.mono (by decide) (by decide)⟩
  show Q8 Z ob pn pg h0 n0 _ T3.heap _
  rw [e3]
  exact ⟨b1, rfl, N3, K3, A_b1, sz_b1⟩
theorem d7_0 : decode prog_1_method_9_code 0 = .ok (.aload_n 0, 1) := by decide +kernel
theorem d7_1 : decode prog_1_method_9_code 1 = .ok (.getfield 7, 3) := by decide +kernel
theorem d7_4 : decode prog_1_method_9_code 4 = .ok (.aload_n 0, 1) := by decide +kernel
theorem d7_5 : decode prog_1_method_9_code 5 = .ok (.getfield 17, 3) := by decide +kernel
theorem d7_8 : decode prog_1_method_9_code 8 = .ok (.invokestatic 31, 3) := by decide +kernel
theorem pd_2 : parseMethodDescriptor "([BI)[B" = some ⟨[(.array .byte), .int], some (.array .byte)⟩ := by decide +kernel
theorem d7_11 : decode prog_1_method_9_code 11 = .ok (.areturn, 1) := by decide +kernel
theorem ef7 (m : MethodId) (oa : Addr) : entryFrame m #[(.ref oa)] 1 = mkF m 0 #[.val (.ref oa)] [] := by first | (simp [entryFrame, mkF, argsToLocals, Value.category]; done) | rfl
def Q7 (Z : State) (oa : Addr) (ob : Addr) (pg : Nat → Int32) (h0 : Heap) (n0 : Nat) (v : Option Value) (h : Heap) (L : List Loc) : Prop := ∃ oc : Addr, v = some (.ref oc) ∧ Fr n0 L ∧ Keep h0 h [] ∧ AI Z h oc .byte 8 (fun j => if j < 8 then pg j else (fun _ => (0 : Int32)) j) ∧ (h0.size ≤ oc)
set_option maxRecDepth 65536 in
set_option maxHeartbeats 40000000 in
theorem rm7 (l : Launch) (Z : State) (a0 : Array Value) (hw : ∀ d ∈ tables_1, d.before a0 Z = true) (ws : List Jvm.Cond) (oa : Addr) (ob : Addr) (pg : Nat → Int32) (h0 : Heap) (n0 : Nat) (Z0 : n0 ≤ h0.size) (F_oa_bytes : Fld Z h0 oa "com/example/javelot/javelot/classfile/ByteWriter" "bytes" "[B" (.ref ob)) (F_oa_size : Fld Z h0 oa "com/example/javelot/javelot/classfile/ByteWriter" "size" "I" (.int (8 : Int32))) (A_ob : AI Z h0 ob .byte 256 pg) :
    MetFree l (⟨"com/example/javelot/javelot/classfile/ByteWriter", "toByteArray", "()[B"⟩ : MethodName) (head1 (Jvm.Cond.code (⟨"com/example/javelot/javelot/classfile/ByteWriter", "toByteArray", "()[B"⟩ : MethodName) prog_1_method_9_code 1 (some (.array .byte)) :: ws) ({ frames := 2, cells := 1, slots := 8, locals := 32 } : Room)) (fun a U => a = #[(.ref oa)] ∧ Z.Warmed39 U.vm ∧ U.heap = h0) (fun _ _ _ _ _ => True) (fun _ U o U' => ∃ v L, o = .returned v ∧ Q7 Z oa ob pg h0 n0 v U'.heap L ∧ FrameEnd U o U' L ({ frames := 2, cells := 1, slots := 8, locals := 32 } : Room).cells ({ frames := 2, cells := 1, slots := 8, locals := 32 } : Room).slots) := by
  refine MetFree.of_bodySF (plainFor_of_name pn_0) hisR ?_
  intro p e s m args below meth c s₁ Bd hml0 hP hK
  obtain ⟨rfl, hZ, hh⟩ := hP
  have hx := Bd.exec
  have hby := Bd.bytes
  have hml : c.maxLocals = 1 := hml0
  have hown : s.vm.findClass "com/example/javelot/javelot/classfile/ByteWriter" = some m.cls := findClass_of_methodNamed Bd.named
  have hnm := (name_of_methodNamed Bd.named Bd.method).1
  have X0 : Stand p l e ({ frames := 2, cells := 1, slots := 8, locals := 32 } : Room) s m #[(.ref oa)] below meth c s₁ [] 0 0 := Stand.of_body Bd
  have e0 : s₁.heap = h0 := by rw [← hh, Bd.state]; rfl
  have N0 := Fr.nil n0
  refine Goes.by (fun _ k => castTop (ef7 m oa) k) ?_
  show Goes p.tables e below (s₁.setTop (mkF m 0 #[.val (.ref oa)] [])) _
  refine Goes.by (fun _ k => XS.aloadN X0.here hx rfl (hb hby d7_0) rfl rfl k) ?_
  show Goes p.tables e below (s₁.setTop (mkF m 1 #[.val (.ref oa)] [(.ref oa)])) _
  obtain ⟨T1, X1, e1, st1⟩ := getF X0 hx hZ hown (host := "") (Or.inl (hw _ (List.mem_of_getElem? (i := 11) rfl))) Via.refl e0 F_oa_bytes (g := (mkF m 1 #[.val (.ref oa)] [(.ref oa)])) rfl rfl (hb hby d7_1)
  refine Goes.by st1 ?_
  show Goes p.tables e below (T1.setTop (mkF m 4 #[.val (.ref oa)] [(.ref ob)])) _
  refine Goes.by (fun _ k => XS.aloadN X1.here hx rfl (hb hby d7_4) rfl rfl k) ?_
  show Goes p.tables e below (T1.setTop (mkF m 5 #[.val (.ref oa)] [(.ref oa), (.ref ob)])) _
  obtain ⟨T2, X2, e2, st2⟩ := getF X1 hx hZ hown (host := "") (Or.inl (hw _ (List.mem_of_getElem? (i := 22) rfl))) Via.refl e1 F_oa_size (g := (mkF m 5 #[.val (.ref oa)] [(.ref oa), (.ref ob)])) rfl rfl (hb hby d7_5)
  refine Goes.by st2 ?_
  show Goes p.tables e below (T2.setTop (mkF m 8 #[.val (.ref oa)] [(.int (8 : Int32)), (.ref ob)])) _
  obtain ⟨_, _, ⟨T3, L3, k3, n3⟩, -, X3, ⟨Lc3, hQ3, l3, y3, z3⟩, st3⟩ := Jvm.LawKit.callS X2 hx (y := (⟨"java/util/Arrays", "copyOf", "([BI)[B"⟩ : MethodName)) hown (mvT hZ (hw _ (List.mem_of_getElem? (i := 39) rfl))) (mvT hZ (hw _ (List.mem_of_getElem? (i := 40) rfl))) (mvT hZ (hw _ (List.mem_of_getElem? (i := 41) rfl))) (mvT hZ (hw _ (List.mem_of_getElem? (i := 42) rfl))) (by decide) (backOf (W := 0) (rm8 l Z a0 hw [] ob (8 : Int32) pg h0 n0 Z0 A_ob (rfl)) hZ (hw _ (List.mem_of_getElem? (i := 42) rfl)) (hw _ (List.mem_of_getElem? (i := 41) rfl)) (by decide) (by decide)) (g := (mkF m 8 #[.val (.ref oa)] [(.int (8 : Int32)), (.ref ob)])) rfl (by rw [hml]; rfl) (argsL := [(.ref ob), (.int (8 : Int32))]) (rest := []) (lenOf pd_2 rfl) rfl (by show 2 * 0 + _ ≤ _; exact Nat.le_of_eq rfl) (hb hby d7_8) (fun _ _ => ⟨rfl, e2, (by decide : 0 + 1 ≤ _), (by decide : 0 + 8 ≤ _)⟩)
  dsimp only [Pt.U, Pt.locs, Pt.cells, Pt.slots] at X3 l3 y3 z3 st3 hQ3
  subst l3 y3 z3
  obtain ⟨oc_3, rfl, N3q, Kq3, po3_0, po3_1⟩ := hQ3
  have N3 := Fr.app N0 N3q
  refine Goes.by st3 ?_
  have Zs3 : n0 ≤ T3.heap.size := Nat.le_trans Z0 Kq3.1
  have K3 : Keep h0 T3.heap [] := (Keep.refl h0 []).trans Kq3 all0
  have lt3_oa := F_oa_bytes.lt
  have lt3_ob := A_ob.lt
  have sz_oc_3 : h0.size ≤ oc_3 := Nat.le_trans (Keep.refl h0 []).1 po3_1
  have g_oc_3 : n0 ≤ oc_3 := Nat.le_trans Z0 po3_1
  have ne_oa_oc_3 : oa ≠ oc_3 := Nat.ne_of_lt (Nat.lt_of_lt_of_le lt3_oa po3_1)
  have ne_ob_oc_3 : ob ≠ oc_3 := Nat.ne_of_lt (Nat.lt_of_lt_of_le lt3_ob po3_1)
  have F_oa_bytes : Fld Z T3.heap oa "com/example/javelot/javelot/classfile/ByteWriter" "bytes" "[B" (.ref ob) := F_oa_bytes.keep Kq3 nin0
  have F_oa_size : Fld Z T3.heap oa "com/example/javelot/javelot/classfile/ByteWriter" "size" "I" (.int (8 : Int32)) := F_oa_size.keep Kq3 nin0
  have A_ob : AI Z T3.heap ob .byte 256 pg := A_ob.keep Kq3 nin0
  have A_oc_3 : AI Z T3.heap oc_3 .byte 8 (fun j => if j < 8 then pg j else (fun _ => (0 : Int32)) j) := po3_0
  show Goes p.tables e below (T3.setTop (mkF m 11 #[.val (.ref oa)] [(.ref oc_3)])) _
  obtain ⟨fs, hr, hrun, hended, hW, hsame⟩ := X3.leave (v := some (.ref oc_3)) (fun h => by rw [Bd.returns] at h; cases h)
  refine ⟨_, _, retOut X3 hx Bd.returns (i := .areturn) (narR rfl) (Or.inr (Or.inr (Or.inr (Or.inr ⟨rfl, rfl, rfl⟩)))) (hb hby d7_11) hr, hrun, hended, _, _, rfl, ?_, ⟨_, rfl⟩, hW, hsame.mono (by decide) (by decide)⟩
  show Q7 Z oa ob pg h0 n0 _ T3.heap _
  exact ⟨oc_3, rfl, N3, K3, A_oc_3, sz_oc_3⟩
theorem d10_0 : decode method_3_code 0 = .ok (.iload_n 1, 1) := by decide +kernel
theorem d10_1 : decode method_3_code 1 = .ok (.iload 4, 2) := by decide +kernel
theorem d10_3 : decode method_3_code 3 = .ok (.if_icmp .ne 17, 3) := by decide +kernel
theorem d10_6 : decode method_3_code 6 = .ok (.iload 5, 2) := by decide +kernel
theorem d10_8 : decode method_3_code 8 = .ok (.bipush 8, 2) := by decide +kernel
theorem d10_10 : decode method_3_code 10 = .ok (.ishr, 1) := by decide +kernel
theorem d10_11 : decode method_3_code 11 = .ok (.sipush 255, 3) := by decide +kernel
theorem d10_14 : decode method_3_code 14 = .ok (.iand, 1) := by decide +kernel
theorem d10_15 : decode method_3_code 15 = .ok (.istore 6, 2) := by decide +kernel
theorem d10_17 : decode method_3_code 17 = .ok (.goto 60, 3) := by decide +kernel
theorem d10_77 : decode method_3_code 77 = .ok (.aload_n 0, 1) := by decide +kernel
theorem d10_78 : decode method_3_code 78 = .ok (.iload_n 1, 1) := by decide +kernel
theorem d10_79 : decode method_3_code 79 = .ok (.baload, 1) := by decide +kernel
theorem d10_80 : decode method_3_code 80 = .ok (.sipush 255, 3) := by decide +kernel
theorem d10_83 : decode method_3_code 83 = .ok (.iand, 1) := by decide +kernel
theorem d10_84 : decode method_3_code 84 = .ok (.iload 6, 2) := by decide +kernel
theorem d10_86 : decode method_3_code 86 = .ok (.if_icmp .ne 7, 3) := by decide +kernel
theorem d10_89 : decode method_3_code 89 = .ok (.iconst 1, 1) := by decide +kernel
theorem d10_90 : decode method_3_code 90 = .ok (.goto 4, 3) := by decide +kernel
theorem d10_94 : decode method_3_code 94 = .ok (.ireturn, 1) := by decide +kernel
theorem d10_93 : decode method_3_code 93 = .ok (.iconst 0, 1) := by decide +kernel
theorem d10_20 : decode method_3_code 20 = .ok (.iload_n 1, 1) := by decide +kernel
theorem d10_21 : decode method_3_code 21 = .ok (.iload 4, 2) := by decide +kernel
theorem d10_23 : decode method_3_code 23 = .ok (.iconst 1, 1) := by decide +kernel
theorem d10_24 : decode method_3_code 24 = .ok (.iadd, 1) := by decide +kernel
theorem d10_25 : decode method_3_code 25 = .ok (.if_icmp .ne 14, 3) := by decide +kernel
theorem d10_28 : decode method_3_code 28 = .ok (.iload 5, 2) := by decide +kernel
theorem d10_30 : decode method_3_code 30 = .ok (.sipush 255, 3) := by decide +kernel
theorem d10_33 : decode method_3_code 33 = .ok (.iand, 1) := by decide +kernel
theorem d10_34 : decode method_3_code 34 = .ok (.istore 6, 2) := by decide +kernel
theorem d10_36 : decode method_3_code 36 = .ok (.goto 41, 3) := by decide +kernel
theorem d10_39 : decode method_3_code 39 = .ok (.iload_n 1, 1) := by decide +kernel
theorem d10_40 : decode method_3_code 40 = .ok (.iconst 4, 1) := by decide +kernel
theorem d10_41 : decode method_3_code 41 = .ok (.if_icmp .ge 21, 3) := by decide +kernel
theorem d10_44 : decode method_3_code 44 = .ok (.iload_n 2, 1) := by decide +kernel
theorem d10_45 : decode method_3_code 45 = .ok (.bipush 24, 2) := by decide +kernel
theorem d10_47 : decode method_3_code 47 = .ok (.bipush 8, 2) := by decide +kernel
theorem d10_49 : decode method_3_code 49 = .ok (.iload_n 1, 1) := by decide +kernel
theorem d10_50 : decode method_3_code 50 = .ok (.imul, 1) := by decide +kernel
theorem d10_51 : decode method_3_code 51 = .ok (.isub, 1) := by decide +kernel
theorem d10_52 : decode method_3_code 52 = .ok (.ishr, 1) := by decide +kernel
theorem d10_53 : decode method_3_code 53 = .ok (.sipush 255, 3) := by decide +kernel
theorem d10_56 : decode method_3_code 56 = .ok (.iand, 1) := by decide +kernel
theorem d10_57 : decode method_3_code 57 = .ok (.istore 6, 2) := by decide +kernel
theorem d10_59 : decode method_3_code 59 = .ok (.goto 18, 3) := by decide +kernel
theorem d10_62 : decode method_3_code 62 = .ok (.iload_n 3, 1) := by decide +kernel
theorem d10_63 : decode method_3_code 63 = .ok (.bipush 56, 2) := by decide +kernel
theorem d10_65 : decode method_3_code 65 = .ok (.bipush 8, 2) := by decide +kernel
theorem d10_67 : decode method_3_code 67 = .ok (.iload_n 1, 1) := by decide +kernel
theorem d10_68 : decode method_3_code 68 = .ok (.imul, 1) := by decide +kernel
theorem d10_69 : decode method_3_code 69 = .ok (.isub, 1) := by decide +kernel
theorem d10_70 : decode method_3_code 70 = .ok (.ishr, 1) := by decide +kernel
theorem d10_71 : decode method_3_code 71 = .ok (.sipush 255, 3) := by decide +kernel
theorem d10_74 : decode method_3_code 74 = .ok (.iand, 1) := by decide +kernel
theorem d10_75 : decode method_3_code 75 = .ok (.istore 6, 2) := by decide +kernel
def fn10 (pi : Int32) (pa : Int32) (pb : Int32) (po : Int32) (pv : Int32) (pg : Nat → Int32) (ni : Nat) : Int32 := (if pi = po then (if ((pg ni) &&& (255 : Int32)) = ((pv >>> ((8 : Int32) &&& 31)) &&& (255 : Int32)) then (1 : Int32) else (0 : Int32)) else (if pi = (po + (1 : Int32)) then (if ((pg ni) &&& (255 : Int32)) = (pv &&& (255 : Int32)) then (1 : Int32) else (0 : Int32)) else (if pi < (4 : Int32) then (if ((pg ni) &&& (255 : Int32)) = ((pa >>> (((24 : Int32) - ((8 : Int32) * pi)) &&& 31)) &&& (255 : Int32)) then (1 : Int32) else (0 : Int32)) else (if ((pg ni) &&& (255 : Int32)) = ((pb >>> (((56 : Int32) - ((8 : Int32) * pi)) &&& 31)) &&& (255 : Int32)) then (1 : Int32) else (0 : Int32)))))
theorem pn_2 : plainName "com/example/javelot/javelot/classfile/ByteWriterPutU2PinLaw" = true := by first | (simp [plainName, overriddenIn]; done) | decide +kernel
theorem ef10 (m : MethodId) (oc : Addr) (pi : Int32) (pa : Int32) (pb : Int32) (po : Int32) (pv : Int32) : entryFrame m #[(.ref oc), (.int pi), (.int pa), (.int pb), (.int po), (.int pv)] 7 = mkF m 0 #[.val (.ref oc), .val (.int pi), .val (.int pa), .val (.int pb), .val (.int po), .val (.int pv), .unset] [] := by first | (simp [entryFrame, mkF, argsToLocals, Value.category]; done) | rfl
def Q10 (Z : State) (oc : Addr) (pi : Int32) (pa : Int32) (pb : Int32) (po : Int32) (pv : Int32) (pg : Nat → Int32) (ni : Nat) (h0 : Heap) (n0 : Nat) (v : Option Value) (h : Heap) (L : List Loc) : Prop := v = some (.int (fn10 pi pa pb po pv pg ni)) ∧ Fr n0 L ∧ h = h0
set_option maxRecDepth 65536 in
set_option maxHeartbeats 40000000 in
theorem rm10 (l : Launch) (Z : State) (a0 : Array Value) (hw : ∀ d ∈ tables_1, d.before a0 Z = true) (ws : List Jvm.Cond) (oc : Addr) (pi : Int32) (pa : Int32) (pb : Int32) (po : Int32) (pv : Int32) (pg : Nat → Int32) (ni : Nat) (h0 : Heap) (n0 : Nat) (Z0 : n0 ≤ h0.size) (A_oc : AI Z h0 oc .byte 8 pg) (hj : pi.toInt = (ni : Int)) (hi : ni < 8) :
    MetFree l (⟨"com/example/javelot/javelot/classfile/ByteWriterPutU2PinLaw", "ok", "([BIIIII)Z"⟩ : MethodName) (head1 (Jvm.Cond.code (⟨"com/example/javelot/javelot/classfile/ByteWriterPutU2PinLaw", "ok", "([BIIIII)Z"⟩ : MethodName) method_3_code 7 (some .boolean) :: ws) ({ frames := 0, cells := 0, slots := 0, locals := 0 } : Room)) (fun a U => a = #[(.ref oc), (.int pi), (.int pa), (.int pb), (.int po), (.int pv)] ∧ Z.Warmed39 U.vm ∧ U.heap = h0) (fun _ _ _ _ _ => True) (fun _ U o U' => ∃ v L, o = .returned v ∧ Q10 Z oc pi pa pb po pv pg ni h0 n0 v U'.heap L ∧ FrameEnd U o U' L ({ frames := 0, cells := 0, slots := 0, locals := 0 } : Room).cells ({ frames := 0, cells := 0, slots := 0, locals := 0 } : Room).slots) := by
  refine MetFree.of_bodySF (plainFor_of_name pn_2) hisR ?_
  intro p e s m args below meth c s₁ Bd hml0 hP hK
  obtain ⟨rfl, hZ, hh⟩ := hP
  have hx := Bd.exec
  have hby := Bd.bytes
  have hml : c.maxLocals = 7 := hml0
  have hown : s.vm.findClass "com/example/javelot/javelot/classfile/ByteWriterPutU2PinLaw" = some m.cls := findClass_of_methodNamed Bd.named
  have hnm := (name_of_methodNamed Bd.named Bd.method).1
  have X0 : Stand p l e ({ frames := 0, cells := 0, slots := 0, locals := 0 } : Room) s m #[(.ref oc), (.int pi), (.int pa), (.int pb), (.int po), (.int pv)] below meth c s₁ [] 0 0 := Stand.of_body Bd
  have e0 : s₁.heap = h0 := by rw [← hh, Bd.state]; rfl
  have N0 := Fr.nil n0
  refine Goes.by (fun _ k => castTop (ef10 m oc pi pa pb po pv) k) ?_
  show Goes p.tables e below (s₁.setTop (mkF m 0 #[.val (.ref oc), .val (.int pi), .val (.int pa), .val (.int pb), .val (.int po), .val (.int pv), .unset] [])) _
  refine Goes.by (fun _ k => XS.iloadN X0.here hx rfl (hb hby d10_0) rfl k) ?_
  show Goes p.tables e below (s₁.setTop (mkF m 1 #[.val (.ref oc), .val (.int pi), .val (.int pa), .val (.int pb), .val (.int po), .val (.int pv), .unset] [(.int pi)])) _
  refine Goes.by (fun _ k => XS.iload X0.here hx rfl (hb hby d10_1) rfl k) ?_
  show Goes p.tables e below (s₁.setTop (mkF m 3 #[.val (.ref oc), .val (.int pi), .val (.int pa), .val (.int pb), .val (.int po), .val (.int pv), .unset] [(.int po), (.int pi)])) _
  by_cases hc1 : pi = po
  · refine Goes.by (fun _ k => XS.icmpNo X0.here hx rfl (hb hby d10_3) rfl (teq hc1).2 k) ?_
    show Goes p.tables e below (s₁.setTop (mkF m 6 #[.val (.ref oc), .val (.int pi), .val (.int pa), .val (.int pb), .val (.int po), .val (.int pv), .unset] [])) _
    refine Goes.by (fun _ k => XS.iload X0.here hx rfl (hb hby d10_6) rfl k) ?_
    show Goes p.tables e below (s₁.setTop (mkF m 8 #[.val (.ref oc), .val (.int pi), .val (.int pa), .val (.int pb), .val (.int po), .val (.int pv), .unset] [(.int pv)])) _
    refine Goes.by (fun _ k => XS.bipush X0.here hx rfl (hb hby d10_8) k) ?_
    show Goes p.tables e below (s₁.setTop (mkF m 10 #[.val (.ref oc), .val (.int pi), .val (.int pa), .val (.int pb), .val (.int po), .val (.int pv), .unset] [(.int (8 : Int32)), (.int pv)])) _
    refine Goes.by (fun _ k => XS.ishr X0.here hx rfl (hb hby d10_10) rfl k) ?_
    show Goes p.tables e below (s₁.setTop (mkF m 11 #[.val (.ref oc), .val (.int pi), .val (.int pa), .val (.int pb), .val (.int po), .val (.int pv), .unset] [(.int (pv >>> ((8 : Int32) &&& 31)))])) _
    refine Goes.by (fun _ k => XS.sipush X0.here hx rfl (hb hby d10_11) k) ?_
    show Goes p.tables e below (s₁.setTop (mkF m 14 #[.val (.ref oc), .val (.int pi), .val (.int pa), .val (.int pb), .val (.int po), .val (.int pv), .unset] [(.int (255 : Int32)), (.int (pv >>> ((8 : Int32) &&& 31)))])) _
    refine Goes.by (fun _ k => XS.iand X0.here hx rfl (hb hby d10_14) rfl k) ?_
    show Goes p.tables e below (s₁.setTop (mkF m 15 #[.val (.ref oc), .val (.int pi), .val (.int pa), .val (.int pb), .val (.int po), .val (.int pv), .unset] [(.int ((pv >>> ((8 : Int32) &&& 31)) &&& (255 : Int32)))])) _
    refine Goes.by (fun _ k => XS.istore X0.here hx rfl (hb hby d10_15) rfl (l' := #[.val (.ref oc), .val (.int pi), .val (.int pa), .val (.int pb), .val (.int po), .val (.int pv), .val (.int ((pv >>> ((8 : Int32) &&& 31)) &&& (255 : Int32)))]) rfl k) ?_
    show Goes p.tables e below (s₁.setTop (mkF m 17 #[.val (.ref oc), .val (.int pi), .val (.int pa), .val (.int pb), .val (.int po), .val (.int pv), .val (.int ((pv >>> ((8 : Int32) &&& 31)) &&& (255 : Int32)))] [])) _
    refine Goes.by (fun _ k => XS.goto X0.here hx rfl (pc0 := 17) (pc' := 77) rfl (hb hby d10_17) (by decide) (by decide) k) ?_
    show Goes p.tables e below (s₁.setTop (mkF m 77 #[.val (.ref oc), .val (.int pi), .val (.int pa), .val (.int pb), .val (.int po), .val (.int pv), .val (.int ((pv >>> ((8 : Int32) &&& 31)) &&& (255 : Int32)))] [])) _
    refine Goes.by (fun _ k => XS.aloadN X0.here hx rfl (hb hby d10_77) rfl rfl k) ?_
    show Goes p.tables e below (s₁.setTop (mkF m 78 #[.val (.ref oc), .val (.int pi), .val (.int pa), .val (.int pb), .val (.int po), .val (.int pv), .val (.int ((pv >>> ((8 : Int32) &&& 31)) &&& (255 : Int32)))] [(.ref oc)])) _
    refine Goes.by (fun _ k => XS.iloadN X0.here hx rfl (hb hby d10_78) rfl k) ?_
    show Goes p.tables e below (s₁.setTop (mkF m 79 #[.val (.ref oc), .val (.int pi), .val (.int pa), .val (.int pb), .val (.int po), .val (.int pv), .val (.int ((pv >>> ((8 : Int32) &&& 31)) &&& (255 : Int32)))] [(.int pi), (.ref oc)])) _
    refine Goes.by (fun _ k => ldB (v := (pg ni)) (fr := (mkF m 79 #[.val (.ref oc), .val (.int pi), .val (.int pa), .val (.int pb), .val (.int po), .val (.int pv), .val (.int ((pv >>> ((8 : Int32) &&& 31)) &&& (255 : Int32)))] [(.int pi), (.ref oc)])) X0 hx hZ e0 A_oc (i := ni) hj hi rfl rfl rfl (hb hby d10_79) k) ?_
    show Goes p.tables e below (s₁.setTop (mkF m 80 #[.val (.ref oc), .val (.int pi), .val (.int pa), .val (.int pb), .val (.int po), .val (.int pv), .val (.int ((pv >>> ((8 : Int32) &&& 31)) &&& (255 : Int32)))] [(.int (pg ni))])) _
    refine Goes.by (fun _ k => XS.sipush X0.here hx rfl (hb hby d10_80) k) ?_
    show Goes p.tables e below (s₁.setTop (mkF m 83 #[.val (.ref oc), .val (.int pi), .val (.int pa), .val (.int pb), .val (.int po), .val (.int pv), .val (.int ((pv >>> ((8 : Int32) &&& 31)) &&& (255 : Int32)))] [(.int (255 : Int32)), (.int (pg ni))])) _
    refine Goes.by (fun _ k => XS.iand X0.here hx rfl (hb hby d10_83) rfl k) ?_
    show Goes p.tables e below (s₁.setTop (mkF m 84 #[.val (.ref oc), .val (.int pi), .val (.int pa), .val (.int pb), .val (.int po), .val (.int pv), .val (.int ((pv >>> ((8 : Int32) &&& 31)) &&& (255 : Int32)))] [(.int ((pg ni) &&& (255 : Int32)))])) _
    refine Goes.by (fun _ k => XS.iload X0.here hx rfl (hb hby d10_84) rfl k) ?_
    show Goes p.tables e below (s₁.setTop (mkF m 86 #[.val (.ref oc), .val (.int pi), .val (.int pa), .val (.int pb), .val (.int po), .val (.int pv), .val (.int ((pv >>> ((8 : Int32) &&& 31)) &&& (255 : Int32)))] [(.int ((pv >>> ((8 : Int32) &&& 31)) &&& (255 : Int32))), (.int ((pg ni) &&& (255 : Int32)))])) _
    by_cases hc2 : ((pg ni) &&& (255 : Int32)) = ((pv >>> ((8 : Int32) &&& 31)) &&& (255 : Int32))
    · refine Goes.by (fun _ k => XS.icmpNo X0.here hx rfl (hb hby d10_86) rfl (teq hc2).2 k) ?_
      show Goes p.tables e below (s₁.setTop (mkF m 89 #[.val (.ref oc), .val (.int pi), .val (.int pa), .val (.int pb), .val (.int po), .val (.int pv), .val (.int ((pv >>> ((8 : Int32) &&& 31)) &&& (255 : Int32)))] [])) _
      refine Goes.by (fun _ k => XS.iconst X0.here hx rfl (hb hby d10_89) k) ?_
      show Goes p.tables e below (s₁.setTop (mkF m 90 #[.val (.ref oc), .val (.int pi), .val (.int pa), .val (.int pb), .val (.int po), .val (.int pv), .val (.int ((pv >>> ((8 : Int32) &&& 31)) &&& (255 : Int32)))] [(.int (1 : Int32))])) _
      refine Goes.by (fun _ k => XS.goto X0.here hx rfl (pc0 := 90) (pc' := 94) rfl (hb hby d10_90) (by decide) (by decide) k) ?_
      show Goes p.tables e below (s₁.setTop (mkF m 94 #[.val (.ref oc), .val (.int pi), .val (.int pa), .val (.int pb), .val (.int po), .val (.int pv), .val (.int ((pv >>> ((8 : Int32) &&& 31)) &&& (255 : Int32)))] [(.int (1 : Int32))])) _
      obtain ⟨fs, hr, hrun, hended, hW, hsame⟩ := X0.leave (v := some (.int (1 : Int32))) (fun h => by rw [Bd.returns] at h; cases h)
      refine ⟨_, _, retN X0 hx (t := .boolean) Bd.returns (by simp) (hb hby d10_94) hr, hrun, hended, _, _, rfl, ?_, ⟨_, rfl⟩, hW, hsame.mono (by decide) (by decide)⟩
      show Q10 Z oc pi pa pb po pv pg ni h0 n0 _ s₁.heap _
      rw [e0]
      exact ⟨(by rw [fn10, if_pos hc1, if_pos hc2]), N0, rfl⟩
    · refine Goes.by (fun _ k => XS.icmpYes X0.here hx rfl (pc0 := 86) (pc' := 93) rfl (hb hby d10_86) rfl (feq hc2).2 (by decide) (by decide) k) ?_
      show Goes p.tables e below (s₁.setTop (mkF m 93 #[.val (.ref oc), .val (.int pi), .val (.int pa), .val (.int pb), .val (.int po), .val (.int pv), .val (.int ((pv >>> ((8 : Int32) &&& 31)) &&& (255 : Int32)))] [])) _
      refine Goes.by (fun _ k => XS.iconst X0.here hx rfl (hb hby d10_93) k) ?_
      show Goes p.tables e below (s₁.setTop (mkF m 94 #[.val (.ref oc), .val (.int pi), .val (.int pa), .val (.int pb), .val (.int po), .val (.int pv), .val (.int ((pv >>> ((8 : Int32) &&& 31)) &&& (255 : Int32)))] [(.int (0 : Int32))])) _
      obtain ⟨fs, hr, hrun, hended, hW, hsame⟩ := X0.leave (v := some (.int (0 : Int32))) (fun h => by rw [Bd.returns] at h; cases h)
      refine ⟨_, _, retN X0 hx (t := .boolean) Bd.returns (by simp) (hb hby d10_94) hr, hrun, hended, _, _, rfl, ?_, ⟨_, rfl⟩, hW, hsame.mono (by decide) (by decide)⟩
      show Q10 Z oc pi pa pb po pv pg ni h0 n0 _ s₁.heap _
      rw [e0]
      exact ⟨(by rw [fn10, if_pos hc1, if_neg hc2]), N0, rfl⟩
  · refine Goes.by (fun _ k => XS.icmpYes X0.here hx rfl (pc0 := 3) (pc' := 20) rfl (hb hby d10_3) rfl (feq hc1).2 (by decide) (by decide) k) ?_
    show Goes p.tables e below (s₁.setTop (mkF m 20 #[.val (.ref oc), .val (.int pi), .val (.int pa), .val (.int pb), .val (.int po), .val (.int pv), .unset] [])) _
    refine Goes.by (fun _ k => XS.iloadN X0.here hx rfl (hb hby d10_20) rfl k) ?_
    show Goes p.tables e below (s₁.setTop (mkF m 21 #[.val (.ref oc), .val (.int pi), .val (.int pa), .val (.int pb), .val (.int po), .val (.int pv), .unset] [(.int pi)])) _
    refine Goes.by (fun _ k => XS.iload X0.here hx rfl (hb hby d10_21) rfl k) ?_
    show Goes p.tables e below (s₁.setTop (mkF m 23 #[.val (.ref oc), .val (.int pi), .val (.int pa), .val (.int pb), .val (.int po), .val (.int pv), .unset] [(.int po), (.int pi)])) _
    refine Goes.by (fun _ k => XS.iconst X0.here hx rfl (hb hby d10_23) k) ?_
    show Goes p.tables e below (s₁.setTop (mkF m 24 #[.val (.ref oc), .val (.int pi), .val (.int pa), .val (.int pb), .val (.int po), .val (.int pv), .unset] [(.int (1 : Int32)), (.int po), (.int pi)])) _
    refine Goes.by (fun _ k => XS.iadd X0.here hx rfl (hb hby d10_24) rfl k) ?_
    show Goes p.tables e below (s₁.setTop (mkF m 25 #[.val (.ref oc), .val (.int pi), .val (.int pa), .val (.int pb), .val (.int po), .val (.int pv), .unset] [(.int (po + (1 : Int32))), (.int pi)])) _
    by_cases hc3 : pi = (po + (1 : Int32))
    · refine Goes.by (fun _ k => XS.icmpNo X0.here hx rfl (hb hby d10_25) rfl (teq hc3).2 k) ?_
      show Goes p.tables e below (s₁.setTop (mkF m 28 #[.val (.ref oc), .val (.int pi), .val (.int pa), .val (.int pb), .val (.int po), .val (.int pv), .unset] [])) _
      refine Goes.by (fun _ k => XS.iload X0.here hx rfl (hb hby d10_28) rfl k) ?_
      show Goes p.tables e below (s₁.setTop (mkF m 30 #[.val (.ref oc), .val (.int pi), .val (.int pa), .val (.int pb), .val (.int po), .val (.int pv), .unset] [(.int pv)])) _
      refine Goes.by (fun _ k => XS.sipush X0.here hx rfl (hb hby d10_30) k) ?_
      show Goes p.tables e below (s₁.setTop (mkF m 33 #[.val (.ref oc), .val (.int pi), .val (.int pa), .val (.int pb), .val (.int po), .val (.int pv), .unset] [(.int (255 : Int32)), (.int pv)])) _
      refine Goes.by (fun _ k => XS.iand X0.here hx rfl (hb hby d10_33) rfl k) ?_
      show Goes p.tables e below (s₁.setTop (mkF m 34 #[.val (.ref oc), .val (.int pi), .val (.int pa), .val (.int pb), .val (.int po), .val (.int pv), .unset] [(.int (pv &&& (255 : Int32)))])) _
      refine Goes.by (fun _ k => XS.istore X0.here hx rfl (hb hby d10_34) rfl (l' := #[.val (.ref oc), .val (.int pi), .val (.int pa), .val (.int pb), .val (.int po), .val (.int pv), .val (.int (pv &&& (255 : Int32)))]) rfl k) ?_
      show Goes p.tables e below (s₁.setTop (mkF m 36 #[.val (.ref oc), .val (.int pi), .val (.int pa), .val (.int pb), .val (.int po), .val (.int pv), .val (.int (pv &&& (255 : Int32)))] [])) _
      refine Goes.by (fun _ k => XS.goto X0.here hx rfl (pc0 := 36) (pc' := 77) rfl (hb hby d10_36) (by decide) (by decide) k) ?_
      show Goes p.tables e below (s₁.setTop (mkF m 77 #[.val (.ref oc), .val (.int pi), .val (.int pa), .val (.int pb), .val (.int po), .val (.int pv), .val (.int (pv &&& (255 : Int32)))] [])) _
      refine Goes.by (fun _ k => XS.aloadN X0.here hx rfl (hb hby d10_77) rfl rfl k) ?_
      show Goes p.tables e below (s₁.setTop (mkF m 78 #[.val (.ref oc), .val (.int pi), .val (.int pa), .val (.int pb), .val (.int po), .val (.int pv), .val (.int (pv &&& (255 : Int32)))] [(.ref oc)])) _
      refine Goes.by (fun _ k => XS.iloadN X0.here hx rfl (hb hby d10_78) rfl k) ?_
      show Goes p.tables e below (s₁.setTop (mkF m 79 #[.val (.ref oc), .val (.int pi), .val (.int pa), .val (.int pb), .val (.int po), .val (.int pv), .val (.int (pv &&& (255 : Int32)))] [(.int pi), (.ref oc)])) _
      refine Goes.by (fun _ k => ldB (v := (pg ni)) (fr := (mkF m 79 #[.val (.ref oc), .val (.int pi), .val (.int pa), .val (.int pb), .val (.int po), .val (.int pv), .val (.int (pv &&& (255 : Int32)))] [(.int pi), (.ref oc)])) X0 hx hZ e0 A_oc (i := ni) hj hi rfl rfl rfl (hb hby d10_79) k) ?_
      show Goes p.tables e below (s₁.setTop (mkF m 80 #[.val (.ref oc), .val (.int pi), .val (.int pa), .val (.int pb), .val (.int po), .val (.int pv), .val (.int (pv &&& (255 : Int32)))] [(.int (pg ni))])) _
      refine Goes.by (fun _ k => XS.sipush X0.here hx rfl (hb hby d10_80) k) ?_
      show Goes p.tables e below (s₁.setTop (mkF m 83 #[.val (.ref oc), .val (.int pi), .val (.int pa), .val (.int pb), .val (.int po), .val (.int pv), .val (.int (pv &&& (255 : Int32)))] [(.int (255 : Int32)), (.int (pg ni))])) _
      refine Goes.by (fun _ k => XS.iand X0.here hx rfl (hb hby d10_83) rfl k) ?_
      show Goes p.tables e below (s₁.setTop (mkF m 84 #[.val (.ref oc), .val (.int pi), .val (.int pa), .val (.int pb), .val (.int po), .val (.int pv), .val (.int (pv &&& (255 : Int32)))] [(.int ((pg ni) &&& (255 : Int32)))])) _
      refine Goes.by (fun _ k => XS.iload X0.here hx rfl (hb hby d10_84) rfl k) ?_
      show Goes p.tables e below (s₁.setTop (mkF m 86 #[.val (.ref oc), .val (.int pi), .val (.int pa), .val (.int pb), .val (.int po), .val (.int pv), .val (.int (pv &&& (255 : Int32)))] [(.int (pv &&& (255 : Int32))), (.int ((pg ni) &&& (255 : Int32)))])) _
      by_cases hc4 : ((pg ni) &&& (255 : Int32)) = (pv &&& (255 : Int32))
      · refine Goes.by (fun _ k => XS.icmpNo X0.here hx rfl (hb hby d10_86) rfl (teq hc4).2 k) ?_
        show Goes p.tables e below (s₁.setTop (mkF m 89 #[.val (.ref oc), .val (.int pi), .val (.int pa), .val (.int pb), .val (.int po), .val (.int pv), .val (.int (pv &&& (255 : Int32)))] [])) _
        refine Goes.by (fun _ k => XS.iconst X0.here hx rfl (hb hby d10_89) k) ?_
        show Goes p.tables e below (s₁.setTop (mkF m 90 #[.val (.ref oc), .val (.int pi), .val (.int pa), .val (.int pb), .val (.int po), .val (.int pv), .val (.int (pv &&& (255 : Int32)))] [(.int (1 : Int32))])) _
        refine Goes.by (fun _ k => XS.goto X0.here hx rfl (pc0 := 90) (pc' := 94) rfl (hb hby d10_90) (by decide) (by decide) k) ?_
        show Goes p.tables e below (s₁.setTop (mkF m 94 #[.val (.ref oc), .val (.int pi), .val (.int pa), .val (.int pb), .val (.int po), .val (.int pv), .val (.int (pv &&& (255 : Int32)))] [(.int (1 : Int32))])) _
        obtain ⟨fs, hr, hrun, hended, hW, hsame⟩ := X0.leave (v := some (.int (1 : Int32))) (fun h => by rw [Bd.returns] at h; cases h)
        refine ⟨_, _, retN X0 hx (t := .boolean) Bd.returns (by simp) (hb hby d10_94) hr, hrun, hended, _, _, rfl, ?_, ⟨_, rfl⟩, hW, hsame.mono (by decide) (by decide)⟩
        show Q10 Z oc pi pa pb po pv pg ni h0 n0 _ s₁.heap _
        rw [e0]
        exact ⟨(by rw [fn10, if_neg hc1, if_pos hc3, if_pos hc4]), N0, rfl⟩
      · refine Goes.by (fun _ k => XS.icmpYes X0.here hx rfl (pc0 := 86) (pc' := 93) rfl (hb hby d10_86) rfl (feq hc4).2 (by decide) (by decide) k) ?_
        show Goes p.tables e below (s₁.setTop (mkF m 93 #[.val (.ref oc), .val (.int pi), .val (.int pa), .val (.int pb), .val (.int po), .val (.int pv), .val (.int (pv &&& (255 : Int32)))] [])) _
        refine Goes.by (fun _ k => XS.iconst X0.here hx rfl (hb hby d10_93) k) ?_
        show Goes p.tables e below (s₁.setTop (mkF m 94 #[.val (.ref oc), .val (.int pi), .val (.int pa), .val (.int pb), .val (.int po), .val (.int pv), .val (.int (pv &&& (255 : Int32)))] [(.int (0 : Int32))])) _
        obtain ⟨fs, hr, hrun, hended, hW, hsame⟩ := X0.leave (v := some (.int (0 : Int32))) (fun h => by rw [Bd.returns] at h; cases h)
        refine ⟨_, _, retN X0 hx (t := .boolean) Bd.returns (by simp) (hb hby d10_94) hr, hrun, hended, _, _, rfl, ?_, ⟨_, rfl⟩, hW, hsame.mono (by decide) (by decide)⟩
        show Q10 Z oc pi pa pb po pv pg ni h0 n0 _ s₁.heap _
        rw [e0]
        exact ⟨(by rw [fn10, if_neg hc1, if_pos hc3, if_neg hc4]), N0, rfl⟩
    · refine Goes.by (fun _ k => XS.icmpYes X0.here hx rfl (pc0 := 25) (pc' := 39) rfl (hb hby d10_25) rfl (feq hc3).2 (by decide) (by decide) k) ?_
      show Goes p.tables e below (s₁.setTop (mkF m 39 #[.val (.ref oc), .val (.int pi), .val (.int pa), .val (.int pb), .val (.int po), .val (.int pv), .unset] [])) _
      refine Goes.by (fun _ k => XS.iloadN X0.here hx rfl (hb hby d10_39) rfl k) ?_
      show Goes p.tables e below (s₁.setTop (mkF m 40 #[.val (.ref oc), .val (.int pi), .val (.int pa), .val (.int pb), .val (.int po), .val (.int pv), .unset] [(.int pi)])) _
      refine Goes.by (fun _ k => XS.iconst X0.here hx rfl (hb hby d10_40) k) ?_
      show Goes p.tables e below (s₁.setTop (mkF m 41 #[.val (.ref oc), .val (.int pi), .val (.int pa), .val (.int pb), .val (.int po), .val (.int pv), .unset] [(.int (4 : Int32)), (.int pi)])) _
      by_cases hc5 : pi < (4 : Int32)
      · refine Goes.by (fun _ k => XS.icmpNo X0.here hx rfl (hb hby d10_41) rfl (tlt hc5).2.1 k) ?_
        show Goes p.tables e below (s₁.setTop (mkF m 44 #[.val (.ref oc), .val (.int pi), .val (.int pa), .val (.int pb), .val (.int po), .val (.int pv), .unset] [])) _
        refine Goes.by (fun _ k => XS.iloadN X0.here hx rfl (hb hby d10_44) rfl k) ?_
        show Goes p.tables e below (s₁.setTop (mkF m 45 #[.val (.ref oc), .val (.int pi), .val (.int pa), .val (.int pb), .val (.int po), .val (.int pv), .unset] [(.int pa)])) _
        refine Goes.by (fun _ k => XS.bipush X0.here hx rfl (hb hby d10_45) k) ?_
        show Goes p.tables e below (s₁.setTop (mkF m 47 #[.val (.ref oc), .val (.int pi), .val (.int pa), .val (.int pb), .val (.int po), .val (.int pv), .unset] [(.int (24 : Int32)), (.int pa)])) _
        refine Goes.by (fun _ k => XS.bipush X0.here hx rfl (hb hby d10_47) k) ?_
        show Goes p.tables e below (s₁.setTop (mkF m 49 #[.val (.ref oc), .val (.int pi), .val (.int pa), .val (.int pb), .val (.int po), .val (.int pv), .unset] [(.int (8 : Int32)), (.int (24 : Int32)), (.int pa)])) _
        refine Goes.by (fun _ k => XS.iloadN X0.here hx rfl (hb hby d10_49) rfl k) ?_
        show Goes p.tables e below (s₁.setTop (mkF m 50 #[.val (.ref oc), .val (.int pi), .val (.int pa), .val (.int pb), .val (.int po), .val (.int pv), .unset] [(.int pi), (.int (8 : Int32)), (.int (24 : Int32)), (.int pa)])) _
        refine Goes.by (fun _ k => XS.imul X0.here hx rfl (hb hby d10_50) rfl k) ?_
        show Goes p.tables e below (s₁.setTop (mkF m 51 #[.val (.ref oc), .val (.int pi), .val (.int pa), .val (.int pb), .val (.int po), .val (.int pv), .unset] [(.int ((8 : Int32) * pi)), (.int (24 : Int32)), (.int pa)])) _
        refine Goes.by (fun _ k => XS.isub X0.here hx rfl (hb hby d10_51) rfl k) ?_
        show Goes p.tables e below (s₁.setTop (mkF m 52 #[.val (.ref oc), .val (.int pi), .val (.int pa), .val (.int pb), .val (.int po), .val (.int pv), .unset] [(.int ((24 : Int32) - ((8 : Int32) * pi))), (.int pa)])) _
        refine Goes.by (fun _ k => XS.ishr X0.here hx rfl (hb hby d10_52) rfl k) ?_
        show Goes p.tables e below (s₁.setTop (mkF m 53 #[.val (.ref oc), .val (.int pi), .val (.int pa), .val (.int pb), .val (.int po), .val (.int pv), .unset] [(.int (pa >>> (((24 : Int32) - ((8 : Int32) * pi)) &&& 31)))])) _
        refine Goes.by (fun _ k => XS.sipush X0.here hx rfl (hb hby d10_53) k) ?_
        show Goes p.tables e below (s₁.setTop (mkF m 56 #[.val (.ref oc), .val (.int pi), .val (.int pa), .val (.int pb), .val (.int po), .val (.int pv), .unset] [(.int (255 : Int32)), (.int (pa >>> (((24 : Int32) - ((8 : Int32) * pi)) &&& 31)))])) _
        refine Goes.by (fun _ k => XS.iand X0.here hx rfl (hb hby d10_56) rfl k) ?_
        show Goes p.tables e below (s₁.setTop (mkF m 57 #[.val (.ref oc), .val (.int pi), .val (.int pa), .val (.int pb), .val (.int po), .val (.int pv), .unset] [(.int ((pa >>> (((24 : Int32) - ((8 : Int32) * pi)) &&& 31)) &&& (255 : Int32)))])) _
        refine Goes.by (fun _ k => XS.istore X0.here hx rfl (hb hby d10_57) rfl (l' := #[.val (.ref oc), .val (.int pi), .val (.int pa), .val (.int pb), .val (.int po), .val (.int pv), .val (.int ((pa >>> (((24 : Int32) - ((8 : Int32) * pi)) &&& 31)) &&& (255 : Int32)))]) rfl k) ?_
        show Goes p.tables e below (s₁.setTop (mkF m 59 #[.val (.ref oc), .val (.int pi), .val (.int pa), .val (.int pb), .val (.int po), .val (.int pv), .val (.int ((pa >>> (((24 : Int32) - ((8 : Int32) * pi)) &&& 31)) &&& (255 : Int32)))] [])) _
        refine Goes.by (fun _ k => XS.goto X0.here hx rfl (pc0 := 59) (pc' := 77) rfl (hb hby d10_59) (by decide) (by decide) k) ?_
        show Goes p.tables e below (s₁.setTop (mkF m 77 #[.val (.ref oc), .val (.int pi), .val (.int pa), .val (.int pb), .val (.int po), .val (.int pv), .val (.int ((pa >>> (((24 : Int32) - ((8 : Int32) * pi)) &&& 31)) &&& (255 : Int32)))] [])) _
        refine Goes.by (fun _ k => XS.aloadN X0.here hx rfl (hb hby d10_77) rfl rfl k) ?_
        show Goes p.tables e below (s₁.setTop (mkF m 78 #[.val (.ref oc), .val (.int pi), .val (.int pa), .val (.int pb), .val (.int po), .val (.int pv), .val (.int ((pa >>> (((24 : Int32) - ((8 : Int32) * pi)) &&& 31)) &&& (255 : Int32)))] [(.ref oc)])) _
        refine Goes.by (fun _ k => XS.iloadN X0.here hx rfl (hb hby d10_78) rfl k) ?_
        show Goes p.tables e below (s₁.setTop (mkF m 79 #[.val (.ref oc), .val (.int pi), .val (.int pa), .val (.int pb), .val (.int po), .val (.int pv), .val (.int ((pa >>> (((24 : Int32) - ((8 : Int32) * pi)) &&& 31)) &&& (255 : Int32)))] [(.int pi), (.ref oc)])) _
        refine Goes.by (fun _ k => ldB (v := (pg ni)) (fr := (mkF m 79 #[.val (.ref oc), .val (.int pi), .val (.int pa), .val (.int pb), .val (.int po), .val (.int pv), .val (.int ((pa >>> (((24 : Int32) - ((8 : Int32) * pi)) &&& 31)) &&& (255 : Int32)))] [(.int pi), (.ref oc)])) X0 hx hZ e0 A_oc (i := ni) hj hi rfl rfl rfl (hb hby d10_79) k) ?_
        show Goes p.tables e below (s₁.setTop (mkF m 80 #[.val (.ref oc), .val (.int pi), .val (.int pa), .val (.int pb), .val (.int po), .val (.int pv), .val (.int ((pa >>> (((24 : Int32) - ((8 : Int32) * pi)) &&& 31)) &&& (255 : Int32)))] [(.int (pg ni))])) _
        refine Goes.by (fun _ k => XS.sipush X0.here hx rfl (hb hby d10_80) k) ?_
        show Goes p.tables e below (s₁.setTop (mkF m 83 #[.val (.ref oc), .val (.int pi), .val (.int pa), .val (.int pb), .val (.int po), .val (.int pv), .val (.int ((pa >>> (((24 : Int32) - ((8 : Int32) * pi)) &&& 31)) &&& (255 : Int32)))] [(.int (255 : Int32)), (.int (pg ni))])) _
        refine Goes.by (fun _ k => XS.iand X0.here hx rfl (hb hby d10_83) rfl k) ?_
        show Goes p.tables e below (s₁.setTop (mkF m 84 #[.val (.ref oc), .val (.int pi), .val (.int pa), .val (.int pb), .val (.int po), .val (.int pv), .val (.int ((pa >>> (((24 : Int32) - ((8 : Int32) * pi)) &&& 31)) &&& (255 : Int32)))] [(.int ((pg ni) &&& (255 : Int32)))])) _
        refine Goes.by (fun _ k => XS.iload X0.here hx rfl (hb hby d10_84) rfl k) ?_
        show Goes p.tables e below (s₁.setTop (mkF m 86 #[.val (.ref oc), .val (.int pi), .val (.int pa), .val (.int pb), .val (.int po), .val (.int pv), .val (.int ((pa >>> (((24 : Int32) - ((8 : Int32) * pi)) &&& 31)) &&& (255 : Int32)))] [(.int ((pa >>> (((24 : Int32) - ((8 : Int32) * pi)) &&& 31)) &&& (255 : Int32))), (.int ((pg ni) &&& (255 : Int32)))])) _
        by_cases hc6 : ((pg ni) &&& (255 : Int32)) = ((pa >>> (((24 : Int32) - ((8 : Int32) * pi)) &&& 31)) &&& (255 : Int32))
        · refine Goes.by (fun _ k => XS.icmpNo X0.here hx rfl (hb hby d10_86) rfl (teq hc6).2 k) ?_
          show Goes p.tables e below (s₁.setTop (mkF m 89 #[.val (.ref oc), .val (.int pi), .val (.int pa), .val (.int pb), .val (.int po), .val (.int pv), .val (.int ((pa >>> (((24 : Int32) - ((8 : Int32) * pi)) &&& 31)) &&& (255 : Int32)))] [])) _
          refine Goes.by (fun _ k => XS.iconst X0.here hx rfl (hb hby d10_89) k) ?_
          show Goes p.tables e below (s₁.setTop (mkF m 90 #[.val (.ref oc), .val (.int pi), .val (.int pa), .val (.int pb), .val (.int po), .val (.int pv), .val (.int ((pa >>> (((24 : Int32) - ((8 : Int32) * pi)) &&& 31)) &&& (255 : Int32)))] [(.int (1 : Int32))])) _
          refine Goes.by (fun _ k => XS.goto X0.here hx rfl (pc0 := 90) (pc' := 94) rfl (hb hby d10_90) (by decide) (by decide) k) ?_
          show Goes p.tables e below (s₁.setTop (mkF m 94 #[.val (.ref oc), .val (.int pi), .val (.int pa), .val (.int pb), .val (.int po), .val (.int pv), .val (.int ((pa >>> (((24 : Int32) - ((8 : Int32) * pi)) &&& 31)) &&& (255 : Int32)))] [(.int (1 : Int32))])) _
          obtain ⟨fs, hr, hrun, hended, hW, hsame⟩ := X0.leave (v := some (.int (1 : Int32))) (fun h => by rw [Bd.returns] at h; cases h)
          refine ⟨_, _, retN X0 hx (t := .boolean) Bd.returns (by simp) (hb hby d10_94) hr, hrun, hended, _, _, rfl, ?_, ⟨_, rfl⟩, hW, hsame.mono (by decide) (by decide)⟩
          show Q10 Z oc pi pa pb po pv pg ni h0 n0 _ s₁.heap _
          rw [e0]
          exact ⟨(by rw [fn10, if_neg hc1, if_neg hc3, if_pos hc5, if_pos hc6]), N0, rfl⟩
        · refine Goes.by (fun _ k => XS.icmpYes X0.here hx rfl (pc0 := 86) (pc' := 93) rfl (hb hby d10_86) rfl (feq hc6).2 (by decide) (by decide) k) ?_
          show Goes p.tables e below (s₁.setTop (mkF m 93 #[.val (.ref oc), .val (.int pi), .val (.int pa), .val (.int pb), .val (.int po), .val (.int pv), .val (.int ((pa >>> (((24 : Int32) - ((8 : Int32) * pi)) &&& 31)) &&& (255 : Int32)))] [])) _
          refine Goes.by (fun _ k => XS.iconst X0.here hx rfl (hb hby d10_93) k) ?_
          show Goes p.tables e below (s₁.setTop (mkF m 94 #[.val (.ref oc), .val (.int pi), .val (.int pa), .val (.int pb), .val (.int po), .val (.int pv), .val (.int ((pa >>> (((24 : Int32) - ((8 : Int32) * pi)) &&& 31)) &&& (255 : Int32)))] [(.int (0 : Int32))])) _
          obtain ⟨fs, hr, hrun, hended, hW, hsame⟩ := X0.leave (v := some (.int (0 : Int32))) (fun h => by rw [Bd.returns] at h; cases h)
          refine ⟨_, _, retN X0 hx (t := .boolean) Bd.returns (by simp) (hb hby d10_94) hr, hrun, hended, _, _, rfl, ?_, ⟨_, rfl⟩, hW, hsame.mono (by decide) (by decide)⟩
          show Q10 Z oc pi pa pb po pv pg ni h0 n0 _ s₁.heap _
          rw [e0]
          exact ⟨(by rw [fn10, if_neg hc1, if_neg hc3, if_pos hc5, if_neg hc6]), N0, rfl⟩
      · refine Goes.by (fun _ k => XS.icmpYes X0.here hx rfl (pc0 := 41) (pc' := 62) rfl (hb hby d10_41) rfl (flt hc5).2.1 (by decide) (by decide) k) ?_
        show Goes p.tables e below (s₁.setTop (mkF m 62 #[.val (.ref oc), .val (.int pi), .val (.int pa), .val (.int pb), .val (.int po), .val (.int pv), .unset] [])) _
        refine Goes.by (fun _ k => XS.iloadN X0.here hx rfl (hb hby d10_62) rfl k) ?_
        show Goes p.tables e below (s₁.setTop (mkF m 63 #[.val (.ref oc), .val (.int pi), .val (.int pa), .val (.int pb), .val (.int po), .val (.int pv), .unset] [(.int pb)])) _
        refine Goes.by (fun _ k => XS.bipush X0.here hx rfl (hb hby d10_63) k) ?_
        show Goes p.tables e below (s₁.setTop (mkF m 65 #[.val (.ref oc), .val (.int pi), .val (.int pa), .val (.int pb), .val (.int po), .val (.int pv), .unset] [(.int (56 : Int32)), (.int pb)])) _
        refine Goes.by (fun _ k => XS.bipush X0.here hx rfl (hb hby d10_65) k) ?_
        show Goes p.tables e below (s₁.setTop (mkF m 67 #[.val (.ref oc), .val (.int pi), .val (.int pa), .val (.int pb), .val (.int po), .val (.int pv), .unset] [(.int (8 : Int32)), (.int (56 : Int32)), (.int pb)])) _
        refine Goes.by (fun _ k => XS.iloadN X0.here hx rfl (hb hby d10_67) rfl k) ?_
        show Goes p.tables e below (s₁.setTop (mkF m 68 #[.val (.ref oc), .val (.int pi), .val (.int pa), .val (.int pb), .val (.int po), .val (.int pv), .unset] [(.int pi), (.int (8 : Int32)), (.int (56 : Int32)), (.int pb)])) _
        refine Goes.by (fun _ k => XS.imul X0.here hx rfl (hb hby d10_68) rfl k) ?_
        show Goes p.tables e below (s₁.setTop (mkF m 69 #[.val (.ref oc), .val (.int pi), .val (.int pa), .val (.int pb), .val (.int po), .val (.int pv), .unset] [(.int ((8 : Int32) * pi)), (.int (56 : Int32)), (.int pb)])) _
        refine Goes.by (fun _ k => XS.isub X0.here hx rfl (hb hby d10_69) rfl k) ?_
        show Goes p.tables e below (s₁.setTop (mkF m 70 #[.val (.ref oc), .val (.int pi), .val (.int pa), .val (.int pb), .val (.int po), .val (.int pv), .unset] [(.int ((56 : Int32) - ((8 : Int32) * pi))), (.int pb)])) _
        refine Goes.by (fun _ k => XS.ishr X0.here hx rfl (hb hby d10_70) rfl k) ?_
        show Goes p.tables e below (s₁.setTop (mkF m 71 #[.val (.ref oc), .val (.int pi), .val (.int pa), .val (.int pb), .val (.int po), .val (.int pv), .unset] [(.int (pb >>> (((56 : Int32) - ((8 : Int32) * pi)) &&& 31)))])) _
        refine Goes.by (fun _ k => XS.sipush X0.here hx rfl (hb hby d10_71) k) ?_
        show Goes p.tables e below (s₁.setTop (mkF m 74 #[.val (.ref oc), .val (.int pi), .val (.int pa), .val (.int pb), .val (.int po), .val (.int pv), .unset] [(.int (255 : Int32)), (.int (pb >>> (((56 : Int32) - ((8 : Int32) * pi)) &&& 31)))])) _
        refine Goes.by (fun _ k => XS.iand X0.here hx rfl (hb hby d10_74) rfl k) ?_
        show Goes p.tables e below (s₁.setTop (mkF m 75 #[.val (.ref oc), .val (.int pi), .val (.int pa), .val (.int pb), .val (.int po), .val (.int pv), .unset] [(.int ((pb >>> (((56 : Int32) - ((8 : Int32) * pi)) &&& 31)) &&& (255 : Int32)))])) _
        refine Goes.by (fun _ k => XS.istore X0.here hx rfl (hb hby d10_75) rfl (l' := #[.val (.ref oc), .val (.int pi), .val (.int pa), .val (.int pb), .val (.int po), .val (.int pv), .val (.int ((pb >>> (((56 : Int32) - ((8 : Int32) * pi)) &&& 31)) &&& (255 : Int32)))]) rfl k) ?_
        show Goes p.tables e below (s₁.setTop (mkF m 77 #[.val (.ref oc), .val (.int pi), .val (.int pa), .val (.int pb), .val (.int po), .val (.int pv), .val (.int ((pb >>> (((56 : Int32) - ((8 : Int32) * pi)) &&& 31)) &&& (255 : Int32)))] [])) _
        refine Goes.by (fun _ k => XS.aloadN X0.here hx rfl (hb hby d10_77) rfl rfl k) ?_
        show Goes p.tables e below (s₁.setTop (mkF m 78 #[.val (.ref oc), .val (.int pi), .val (.int pa), .val (.int pb), .val (.int po), .val (.int pv), .val (.int ((pb >>> (((56 : Int32) - ((8 : Int32) * pi)) &&& 31)) &&& (255 : Int32)))] [(.ref oc)])) _
        refine Goes.by (fun _ k => XS.iloadN X0.here hx rfl (hb hby d10_78) rfl k) ?_
        show Goes p.tables e below (s₁.setTop (mkF m 79 #[.val (.ref oc), .val (.int pi), .val (.int pa), .val (.int pb), .val (.int po), .val (.int pv), .val (.int ((pb >>> (((56 : Int32) - ((8 : Int32) * pi)) &&& 31)) &&& (255 : Int32)))] [(.int pi), (.ref oc)])) _
        refine Goes.by (fun _ k => ldB (v := (pg ni)) (fr := (mkF m 79 #[.val (.ref oc), .val (.int pi), .val (.int pa), .val (.int pb), .val (.int po), .val (.int pv), .val (.int ((pb >>> (((56 : Int32) - ((8 : Int32) * pi)) &&& 31)) &&& (255 : Int32)))] [(.int pi), (.ref oc)])) X0 hx hZ e0 A_oc (i := ni) hj hi rfl rfl rfl (hb hby d10_79) k) ?_
        show Goes p.tables e below (s₁.setTop (mkF m 80 #[.val (.ref oc), .val (.int pi), .val (.int pa), .val (.int pb), .val (.int po), .val (.int pv), .val (.int ((pb >>> (((56 : Int32) - ((8 : Int32) * pi)) &&& 31)) &&& (255 : Int32)))] [(.int (pg ni))])) _
        refine Goes.by (fun _ k => XS.sipush X0.here hx rfl (hb hby d10_80) k) ?_
        show Goes p.tables e below (s₁.setTop (mkF m 83 #[.val (.ref oc), .val (.int pi), .val (.int pa), .val (.int pb), .val (.int po), .val (.int pv), .val (.int ((pb >>> (((56 : Int32) - ((8 : Int32) * pi)) &&& 31)) &&& (255 : Int32)))] [(.int (255 : Int32)), (.int (pg ni))])) _
        refine Goes.by (fun _ k => XS.iand X0.here hx rfl (hb hby d10_83) rfl k) ?_
        show Goes p.tables e below (s₁.setTop (mkF m 84 #[.val (.ref oc), .val (.int pi), .val (.int pa), .val (.int pb), .val (.int po), .val (.int pv), .val (.int ((pb >>> (((56 : Int32) - ((8 : Int32) * pi)) &&& 31)) &&& (255 : Int32)))] [(.int ((pg ni) &&& (255 : Int32)))])) _
        refine Goes.by (fun _ k => XS.iload X0.here hx rfl (hb hby d10_84) rfl k) ?_
        show Goes p.tables e below (s₁.setTop (mkF m 86 #[.val (.ref oc), .val (.int pi), .val (.int pa), .val (.int pb), .val (.int po), .val (.int pv), .val (.int ((pb >>> (((56 : Int32) - ((8 : Int32) * pi)) &&& 31)) &&& (255 : Int32)))] [(.int ((pb >>> (((56 : Int32) - ((8 : Int32) * pi)) &&& 31)) &&& (255 : Int32))), (.int ((pg ni) &&& (255 : Int32)))])) _
        by_cases hc7 : ((pg ni) &&& (255 : Int32)) = ((pb >>> (((56 : Int32) - ((8 : Int32) * pi)) &&& 31)) &&& (255 : Int32))
        · refine Goes.by (fun _ k => XS.icmpNo X0.here hx rfl (hb hby d10_86) rfl (teq hc7).2 k) ?_
          show Goes p.tables e below (s₁.setTop (mkF m 89 #[.val (.ref oc), .val (.int pi), .val (.int pa), .val (.int pb), .val (.int po), .val (.int pv), .val (.int ((pb >>> (((56 : Int32) - ((8 : Int32) * pi)) &&& 31)) &&& (255 : Int32)))] [])) _
          refine Goes.by (fun _ k => XS.iconst X0.here hx rfl (hb hby d10_89) k) ?_
          show Goes p.tables e below (s₁.setTop (mkF m 90 #[.val (.ref oc), .val (.int pi), .val (.int pa), .val (.int pb), .val (.int po), .val (.int pv), .val (.int ((pb >>> (((56 : Int32) - ((8 : Int32) * pi)) &&& 31)) &&& (255 : Int32)))] [(.int (1 : Int32))])) _
          refine Goes.by (fun _ k => XS.goto X0.here hx rfl (pc0 := 90) (pc' := 94) rfl (hb hby d10_90) (by decide) (by decide) k) ?_
          show Goes p.tables e below (s₁.setTop (mkF m 94 #[.val (.ref oc), .val (.int pi), .val (.int pa), .val (.int pb), .val (.int po), .val (.int pv), .val (.int ((pb >>> (((56 : Int32) - ((8 : Int32) * pi)) &&& 31)) &&& (255 : Int32)))] [(.int (1 : Int32))])) _
          obtain ⟨fs, hr, hrun, hended, hW, hsame⟩ := X0.leave (v := some (.int (1 : Int32))) (fun h => by rw [Bd.returns] at h; cases h)
          refine ⟨_, _, retN X0 hx (t := .boolean) Bd.returns (by simp) (hb hby d10_94) hr, hrun, hended, _, _, rfl, ?_, ⟨_, rfl⟩, hW, hsame.mono (by decide) (by decide)⟩
          show Q10 Z oc pi pa pb po pv pg ni h0 n0 _ s₁.heap _
          rw [e0]
          exact ⟨(by rw [fn10, if_neg hc1, if_neg hc3, if_neg hc5, if_pos hc7]), N0, rfl⟩
        · refine Goes.by (fun _ k => XS.icmpYes X0.here hx rfl (pc0 := 86) (pc' := 93) rfl (hb hby d10_86) rfl (feq hc7).2 (by decide) (by decide) k) ?_
          show Goes p.tables e below (s₁.setTop (mkF m 93 #[.val (.ref oc), .val (.int pi), .val (.int pa), .val (.int pb), .val (.int po), .val (.int pv), .val (.int ((pb >>> (((56 : Int32) - ((8 : Int32) * pi)) &&& 31)) &&& (255 : Int32)))] [])) _
          refine Goes.by (fun _ k => XS.iconst X0.here hx rfl (hb hby d10_93) k) ?_
          show Goes p.tables e below (s₁.setTop (mkF m 94 #[.val (.ref oc), .val (.int pi), .val (.int pa), .val (.int pb), .val (.int po), .val (.int pv), .val (.int ((pb >>> (((56 : Int32) - ((8 : Int32) * pi)) &&& 31)) &&& (255 : Int32)))] [(.int (0 : Int32))])) _
          obtain ⟨fs, hr, hrun, hended, hW, hsame⟩ := X0.leave (v := some (.int (0 : Int32))) (fun h => by rw [Bd.returns] at h; cases h)
          refine ⟨_, _, retN X0 hx (t := .boolean) Bd.returns (by simp) (hb hby d10_94) hr, hrun, hended, _, _, rfl, ?_, ⟨_, rfl⟩, hW, hsame.mono (by decide) (by decide)⟩
          show Q10 Z oc pi pa pb po pv pg ni h0 n0 _ s₁.heap _
          rw [e0]
          exact ⟨(by rw [fn10, if_neg hc1, if_neg hc3, if_neg hc5, if_neg hc7]), N0, rfl⟩
theorem own_off (px xl : Int32) (h : xl = ((px &&& (2147483647 : Int32)) % (7 : Int32))) : xl.toInt = ((xl.toInt.toNat) : Int) ∧ xl.toInt.toNat < 7 := by
  have h1 := c_and px 2147483647 (by decide)
  have h2 := (c_irem (px &&& 2147483647) 7 7 rfl).1 h1.1
  rw [← h] at h2
  omega
theorem own_by (x q s : Int32) (k : Nat) (hs : s.toBitVec.toNat % 32 = k) (hq : q.toBitVec.toNat % 32 = k) (h0 : 0 < k) (h1 : k = 8 ∨ k = 16 ∨ k = 24) : (((((x.toUInt32 >>> (s &&& 31).toUInt32).toInt32).toInt8.toInt32).toInt8.toInt32) &&& (255 : Int32)) = ((x >>> (q &&& 31)) &&& (255 : Int32)) := by
  have a1 := c_mask ((((x.toUInt32 >>> (s &&& 31).toUInt32).toInt32).toInt8.toInt32).toInt8.toInt32) 255 8 (by decide) (by decide)
  have a2 := c_mask (x >>> (q &&& 31)) 255 8 (by decide) (by decide)
  have a3 := c_iushr x s k hs h0
  have a4 := c_ishr x q k hq
  have a5 := (c_i2b ((x.toUInt32 >>> (s &&& 31).toUInt32).toInt32)).1
  have a6 := (c_i2b (((x.toUInt32 >>> (s &&& 31).toUInt32).toInt32).toInt8.toInt32)).1
  apply Int32.toInt_inj.mp
  rcases h1 with rfl | rfl | rfl <;> omega
theorem own_by0 (x q : Int32) (hq : q.toBitVec.toNat % 32 = 0) : (((x.toInt8.toInt32).toInt8.toInt32) &&& (255 : Int32)) = ((x >>> (q &&& 31)) &&& (255 : Int32)) := by
  have a1 := c_mask ((x.toInt8.toInt32).toInt8.toInt32) 255 8 (by decide) (by decide)
  have a2 := c_mask (x >>> (q &&& 31)) 255 8 (by decide) (by decide)
  have a4 := c_ishr x q 0 hq
  have a5 := (c_i2b x).1
  have a6 := (c_i2b (x.toInt8.toInt32)).1
  apply Int32.toInt_inj.mp
  omega
theorem own_byl (x : Int32) : (((x.toInt8.toInt32).toInt8.toInt32) &&& (255 : Int32)) = (x &&& (255 : Int32)) := by
  have a1 := c_mask ((x.toInt8.toInt32).toInt8.toInt32) 255 8 (by decide) (by decide)
  have a2 := c_mask x 255 8 (by decide) (by decide)
  have a5 := (c_i2b x).1
  have a6 := (c_i2b (x.toInt8.toInt32)).1
  apply Int32.toInt_inj.mp
  omega
theorem own_ok (pi pa pb po pv : Int32) (pg : Nat → Int32) (ni : Nat) (B : Nat → Int32) (X Y : Int32) (n : Nat) (hpi : pi.toInt = (ni : Int)) (hpo : po.toInt = (n : Int)) (hn : n < 7) (hg : pg ni = up (up B n X) (n + 1) Y ni)
    (hX : (X &&& (255 : Int32)) = ((pv >>> ((8 : Int32) &&& 31)) &&& (255 : Int32))) (hY : (Y &&& (255 : Int32)) = (pv &&& (255 : Int32))) (hB1 : pi < (4 : Int32) → (B ni &&& (255 : Int32)) = ((pa >>> (((24 : Int32) - ((8 : Int32) * pi)) &&& 31)) &&& (255 : Int32))) (hB2 : ¬ pi < (4 : Int32) → (B ni &&& (255 : Int32)) = ((pb >>> (((56 : Int32) - ((8 : Int32) * pi)) &&& 31)) &&& (255 : Int32))) : fn10 pi pa pb po pv pg ni = (1 : Int32) := by
  have e1 : (1 : Int32).toInt = 1 := rfl
  have a := c_iadd po 1
  rw [e1] at a
  have r := rng32 (po + 1)
  have i1 : pi = po ↔ ni = n := by rw [← Int32.toInt_inj]; omega
  have i2 : pi = po + 1 ↔ ni = n + 1 := by rw [← Int32.toInt_inj]; omega
  rw [fn10]
  by_cases c1 : ni = n
  · have g1 : pg ni = X := by rw [hg, up_ne _ _ (by omega), c1, up_at]
    rw [if_pos (i1.mpr c1), g1, if_pos hX]
  · rw [if_neg (fun z => c1 (i1.mp z))]
    by_cases c2 : ni = n + 1
    · have g1 : pg ni = Y := by rw [hg, c2, up_at]
      rw [if_pos (i2.mpr c2), g1, if_pos hY]
    · have g1 : pg ni = B ni := by rw [hg, up_ne _ _ c2, up_ne _ _ c1]
      rw [if_neg (fun z => c2 (i2.mp z)), g1]
      by_cases c3 : pi < (4 : Int32)
      · rw [if_pos c3, if_pos (hB1 c3)]
      · rw [if_neg c3, if_pos (hB2 c3)]

theorem pd_3 : parseMethodDescriptor "()V" = some ⟨[], none⟩ := by decide +kernel
theorem pd_4 : parseMethodDescriptor "(II)V" = some ⟨[.int, .int], none⟩ := by decide +kernel
theorem pd_5 : parseMethodDescriptor "()I" = some ⟨[], some .int⟩ := by decide +kernel
theorem pd_6 : parseMethodDescriptor "()[B" = some ⟨[], some (.array .byte)⟩ := by decide +kernel
theorem pd_7 : parseMethodDescriptor "([BIIIII)Z" = some ⟨[(.array .byte), .int, .int, .int, .int, .int], some .boolean⟩ := by decide +kernel
theorem own_ok0 (pa pb pf pv x1 : Int32) (hx1 : x1 = ((pf &&& (2147483647 : Int32)) % (7 : Int32))) : (fn10 (0 : Int32) pa pb x1 pv (fun j => if j < 8 then (up (up (up (up (up (up (up (up (up (up (fun _ => (0 : Int32)) 0 ((((pa.toUInt32 >>> ((24 : Int32) &&& 31).toUInt32).toInt32).toInt8.toInt32).toInt8.toInt32)) 1 ((((pa.toUInt32 >>> ((16 : Int32) &&& 31).toUInt32).toInt32).toInt8.toInt32).toInt8.toInt32)) 2 ((((pa.toUInt32 >>> ((8 : Int32) &&& 31).toUInt32).toInt32).toInt8.toInt32).toInt8.toInt32)) 3 ((pa.toInt8.toInt32).toInt8.toInt32)) 4 ((((pb.toUInt32 >>> ((24 : Int32) &&& 31).toUInt32).toInt32).toInt8.toInt32).toInt8.toInt32)) 5 ((((pb.toUInt32 >>> ((16 : Int32) &&& 31).toUInt32).toInt32).toInt8.toInt32).toInt8.toInt32)) 6 ((((pb.toUInt32 >>> ((8 : Int32) &&& 31).toUInt32).toInt32).toInt8.toInt32).toInt8.toInt32)) 7 ((pb.toInt8.toInt32).toInt8.toInt32)) (x1.toInt.toNat) ((((pv.toUInt32 >>> ((8 : Int32) &&& 31).toUInt32).toInt32).toInt8.toInt32).toInt8.toInt32)) ((x1.toInt.toNat) + 1) ((pv.toInt8.toInt32).toInt8.toInt32)) j else (fun _ => (0 : Int32)) j) 0) = (1 : Int32) :=
  own_ok _ pa pb x1 pv _ 0 (up (up (up (up (up (up (up (up (fun _ => (0 : Int32)) 0 ((((pa.toUInt32 >>> ((24 : Int32) &&& 31).toUInt32).toInt32).toInt8.toInt32).toInt8.toInt32)) 1 ((((pa.toUInt32 >>> ((16 : Int32) &&& 31).toUInt32).toInt32).toInt8.toInt32).toInt8.toInt32)) 2 ((((pa.toUInt32 >>> ((8 : Int32) &&& 31).toUInt32).toInt32).toInt8.toInt32).toInt8.toInt32)) 3 ((pa.toInt8.toInt32).toInt8.toInt32)) 4 ((((pb.toUInt32 >>> ((24 : Int32) &&& 31).toUInt32).toInt32).toInt8.toInt32).toInt8.toInt32)) 5 ((((pb.toUInt32 >>> ((16 : Int32) &&& 31).toUInt32).toInt32).toInt8.toInt32).toInt8.toInt32)) 6 ((((pb.toUInt32 >>> ((8 : Int32) &&& 31).toUInt32).toInt32).toInt8.toInt32).toInt8.toInt32)) 7 ((pb.toInt8.toInt32).toInt8.toInt32)) ((((pv.toUInt32 >>> ((8 : Int32) &&& 31).toUInt32).toInt32).toInt8.toInt32).toInt8.toInt32) ((pv.toInt8.toInt32).toInt8.toInt32) (x1.toInt.toNat) (by decide) (own_off _ _ hx1).1 (own_off _ _ hx1).2 (if_pos (by decide)) (own_by pv 8 8 8 (by decide) (by decide) (by decide) (by decide)) (own_byl pv) (fun _ => own_by pa ((24 : Int32) - ((8 : Int32) * (0 : Int32))) 24 24 (by decide) (by decide) (by decide) (by decide)) (fun z => absurd (by decide) z)
theorem own_ok1 (pa pb pf pv x1 : Int32) (hx1 : x1 = ((pf &&& (2147483647 : Int32)) % (7 : Int32))) : (fn10 (1 : Int32) pa pb x1 pv (fun j => if j < 8 then (up (up (up (up (up (up (up (up (up (up (fun _ => (0 : Int32)) 0 ((((pa.toUInt32 >>> ((24 : Int32) &&& 31).toUInt32).toInt32).toInt8.toInt32).toInt8.toInt32)) 1 ((((pa.toUInt32 >>> ((16 : Int32) &&& 31).toUInt32).toInt32).toInt8.toInt32).toInt8.toInt32)) 2 ((((pa.toUInt32 >>> ((8 : Int32) &&& 31).toUInt32).toInt32).toInt8.toInt32).toInt8.toInt32)) 3 ((pa.toInt8.toInt32).toInt8.toInt32)) 4 ((((pb.toUInt32 >>> ((24 : Int32) &&& 31).toUInt32).toInt32).toInt8.toInt32).toInt8.toInt32)) 5 ((((pb.toUInt32 >>> ((16 : Int32) &&& 31).toUInt32).toInt32).toInt8.toInt32).toInt8.toInt32)) 6 ((((pb.toUInt32 >>> ((8 : Int32) &&& 31).toUInt32).toInt32).toInt8.toInt32).toInt8.toInt32)) 7 ((pb.toInt8.toInt32).toInt8.toInt32)) (x1.toInt.toNat) ((((pv.toUInt32 >>> ((8 : Int32) &&& 31).toUInt32).toInt32).toInt8.toInt32).toInt8.toInt32)) ((x1.toInt.toNat) + 1) ((pv.toInt8.toInt32).toInt8.toInt32)) j else (fun _ => (0 : Int32)) j) 1) = (1 : Int32) :=
  own_ok _ pa pb x1 pv _ 1 (up (up (up (up (up (up (up (up (fun _ => (0 : Int32)) 0 ((((pa.toUInt32 >>> ((24 : Int32) &&& 31).toUInt32).toInt32).toInt8.toInt32).toInt8.toInt32)) 1 ((((pa.toUInt32 >>> ((16 : Int32) &&& 31).toUInt32).toInt32).toInt8.toInt32).toInt8.toInt32)) 2 ((((pa.toUInt32 >>> ((8 : Int32) &&& 31).toUInt32).toInt32).toInt8.toInt32).toInt8.toInt32)) 3 ((pa.toInt8.toInt32).toInt8.toInt32)) 4 ((((pb.toUInt32 >>> ((24 : Int32) &&& 31).toUInt32).toInt32).toInt8.toInt32).toInt8.toInt32)) 5 ((((pb.toUInt32 >>> ((16 : Int32) &&& 31).toUInt32).toInt32).toInt8.toInt32).toInt8.toInt32)) 6 ((((pb.toUInt32 >>> ((8 : Int32) &&& 31).toUInt32).toInt32).toInt8.toInt32).toInt8.toInt32)) 7 ((pb.toInt8.toInt32).toInt8.toInt32)) ((((pv.toUInt32 >>> ((8 : Int32) &&& 31).toUInt32).toInt32).toInt8.toInt32).toInt8.toInt32) ((pv.toInt8.toInt32).toInt8.toInt32) (x1.toInt.toNat) (by decide) (own_off _ _ hx1).1 (own_off _ _ hx1).2 (if_pos (by decide)) (own_by pv 8 8 8 (by decide) (by decide) (by decide) (by decide)) (own_byl pv) (fun _ => own_by pa ((24 : Int32) - ((8 : Int32) * (1 : Int32))) 16 16 (by decide) (by decide) (by decide) (by decide)) (fun z => absurd (by decide) z)
theorem own_ok2 (pa pb pf pv x1 : Int32) (hx1 : x1 = ((pf &&& (2147483647 : Int32)) % (7 : Int32))) : (fn10 (2 : Int32) pa pb x1 pv (fun j => if j < 8 then (up (up (up (up (up (up (up (up (up (up (fun _ => (0 : Int32)) 0 ((((pa.toUInt32 >>> ((24 : Int32) &&& 31).toUInt32).toInt32).toInt8.toInt32).toInt8.toInt32)) 1 ((((pa.toUInt32 >>> ((16 : Int32) &&& 31).toUInt32).toInt32).toInt8.toInt32).toInt8.toInt32)) 2 ((((pa.toUInt32 >>> ((8 : Int32) &&& 31).toUInt32).toInt32).toInt8.toInt32).toInt8.toInt32)) 3 ((pa.toInt8.toInt32).toInt8.toInt32)) 4 ((((pb.toUInt32 >>> ((24 : Int32) &&& 31).toUInt32).toInt32).toInt8.toInt32).toInt8.toInt32)) 5 ((((pb.toUInt32 >>> ((16 : Int32) &&& 31).toUInt32).toInt32).toInt8.toInt32).toInt8.toInt32)) 6 ((((pb.toUInt32 >>> ((8 : Int32) &&& 31).toUInt32).toInt32).toInt8.toInt32).toInt8.toInt32)) 7 ((pb.toInt8.toInt32).toInt8.toInt32)) (x1.toInt.toNat) ((((pv.toUInt32 >>> ((8 : Int32) &&& 31).toUInt32).toInt32).toInt8.toInt32).toInt8.toInt32)) ((x1.toInt.toNat) + 1) ((pv.toInt8.toInt32).toInt8.toInt32)) j else (fun _ => (0 : Int32)) j) 2) = (1 : Int32) :=
  own_ok _ pa pb x1 pv _ 2 (up (up (up (up (up (up (up (up (fun _ => (0 : Int32)) 0 ((((pa.toUInt32 >>> ((24 : Int32) &&& 31).toUInt32).toInt32).toInt8.toInt32).toInt8.toInt32)) 1 ((((pa.toUInt32 >>> ((16 : Int32) &&& 31).toUInt32).toInt32).toInt8.toInt32).toInt8.toInt32)) 2 ((((pa.toUInt32 >>> ((8 : Int32) &&& 31).toUInt32).toInt32).toInt8.toInt32).toInt8.toInt32)) 3 ((pa.toInt8.toInt32).toInt8.toInt32)) 4 ((((pb.toUInt32 >>> ((24 : Int32) &&& 31).toUInt32).toInt32).toInt8.toInt32).toInt8.toInt32)) 5 ((((pb.toUInt32 >>> ((16 : Int32) &&& 31).toUInt32).toInt32).toInt8.toInt32).toInt8.toInt32)) 6 ((((pb.toUInt32 >>> ((8 : Int32) &&& 31).toUInt32).toInt32).toInt8.toInt32).toInt8.toInt32)) 7 ((pb.toInt8.toInt32).toInt8.toInt32)) ((((pv.toUInt32 >>> ((8 : Int32) &&& 31).toUInt32).toInt32).toInt8.toInt32).toInt8.toInt32) ((pv.toInt8.toInt32).toInt8.toInt32) (x1.toInt.toNat) (by decide) (own_off _ _ hx1).1 (own_off _ _ hx1).2 (if_pos (by decide)) (own_by pv 8 8 8 (by decide) (by decide) (by decide) (by decide)) (own_byl pv) (fun _ => own_by pa ((24 : Int32) - ((8 : Int32) * (2 : Int32))) 8 8 (by decide) (by decide) (by decide) (by decide)) (fun z => absurd (by decide) z)
theorem own_ok3 (pa pb pf pv x1 : Int32) (hx1 : x1 = ((pf &&& (2147483647 : Int32)) % (7 : Int32))) : (fn10 (3 : Int32) pa pb x1 pv (fun j => if j < 8 then (up (up (up (up (up (up (up (up (up (up (fun _ => (0 : Int32)) 0 ((((pa.toUInt32 >>> ((24 : Int32) &&& 31).toUInt32).toInt32).toInt8.toInt32).toInt8.toInt32)) 1 ((((pa.toUInt32 >>> ((16 : Int32) &&& 31).toUInt32).toInt32).toInt8.toInt32).toInt8.toInt32)) 2 ((((pa.toUInt32 >>> ((8 : Int32) &&& 31).toUInt32).toInt32).toInt8.toInt32).toInt8.toInt32)) 3 ((pa.toInt8.toInt32).toInt8.toInt32)) 4 ((((pb.toUInt32 >>> ((24 : Int32) &&& 31).toUInt32).toInt32).toInt8.toInt32).toInt8.toInt32)) 5 ((((pb.toUInt32 >>> ((16 : Int32) &&& 31).toUInt32).toInt32).toInt8.toInt32).toInt8.toInt32)) 6 ((((pb.toUInt32 >>> ((8 : Int32) &&& 31).toUInt32).toInt32).toInt8.toInt32).toInt8.toInt32)) 7 ((pb.toInt8.toInt32).toInt8.toInt32)) (x1.toInt.toNat) ((((pv.toUInt32 >>> ((8 : Int32) &&& 31).toUInt32).toInt32).toInt8.toInt32).toInt8.toInt32)) ((x1.toInt.toNat) + 1) ((pv.toInt8.toInt32).toInt8.toInt32)) j else (fun _ => (0 : Int32)) j) 3) = (1 : Int32) :=
  own_ok _ pa pb x1 pv _ 3 (up (up (up (up (up (up (up (up (fun _ => (0 : Int32)) 0 ((((pa.toUInt32 >>> ((24 : Int32) &&& 31).toUInt32).toInt32).toInt8.toInt32).toInt8.toInt32)) 1 ((((pa.toUInt32 >>> ((16 : Int32) &&& 31).toUInt32).toInt32).toInt8.toInt32).toInt8.toInt32)) 2 ((((pa.toUInt32 >>> ((8 : Int32) &&& 31).toUInt32).toInt32).toInt8.toInt32).toInt8.toInt32)) 3 ((pa.toInt8.toInt32).toInt8.toInt32)) 4 ((((pb.toUInt32 >>> ((24 : Int32) &&& 31).toUInt32).toInt32).toInt8.toInt32).toInt8.toInt32)) 5 ((((pb.toUInt32 >>> ((16 : Int32) &&& 31).toUInt32).toInt32).toInt8.toInt32).toInt8.toInt32)) 6 ((((pb.toUInt32 >>> ((8 : Int32) &&& 31).toUInt32).toInt32).toInt8.toInt32).toInt8.toInt32)) 7 ((pb.toInt8.toInt32).toInt8.toInt32)) ((((pv.toUInt32 >>> ((8 : Int32) &&& 31).toUInt32).toInt32).toInt8.toInt32).toInt8.toInt32) ((pv.toInt8.toInt32).toInt8.toInt32) (x1.toInt.toNat) (by decide) (own_off _ _ hx1).1 (own_off _ _ hx1).2 (if_pos (by decide)) (own_by pv 8 8 8 (by decide) (by decide) (by decide) (by decide)) (own_byl pv) (fun _ => own_by0 pa ((24 : Int32) - ((8 : Int32) * (3 : Int32))) (by decide)) (fun z => absurd (by decide) z)
theorem own_ok4 (pa pb pf pv x1 : Int32) (hx1 : x1 = ((pf &&& (2147483647 : Int32)) % (7 : Int32))) : (fn10 (4 : Int32) pa pb x1 pv (fun j => if j < 8 then (up (up (up (up (up (up (up (up (up (up (fun _ => (0 : Int32)) 0 ((((pa.toUInt32 >>> ((24 : Int32) &&& 31).toUInt32).toInt32).toInt8.toInt32).toInt8.toInt32)) 1 ((((pa.toUInt32 >>> ((16 : Int32) &&& 31).toUInt32).toInt32).toInt8.toInt32).toInt8.toInt32)) 2 ((((pa.toUInt32 >>> ((8 : Int32) &&& 31).toUInt32).toInt32).toInt8.toInt32).toInt8.toInt32)) 3 ((pa.toInt8.toInt32).toInt8.toInt32)) 4 ((((pb.toUInt32 >>> ((24 : Int32) &&& 31).toUInt32).toInt32).toInt8.toInt32).toInt8.toInt32)) 5 ((((pb.toUInt32 >>> ((16 : Int32) &&& 31).toUInt32).toInt32).toInt8.toInt32).toInt8.toInt32)) 6 ((((pb.toUInt32 >>> ((8 : Int32) &&& 31).toUInt32).toInt32).toInt8.toInt32).toInt8.toInt32)) 7 ((pb.toInt8.toInt32).toInt8.toInt32)) (x1.toInt.toNat) ((((pv.toUInt32 >>> ((8 : Int32) &&& 31).toUInt32).toInt32).toInt8.toInt32).toInt8.toInt32)) ((x1.toInt.toNat) + 1) ((pv.toInt8.toInt32).toInt8.toInt32)) j else (fun _ => (0 : Int32)) j) 4) = (1 : Int32) :=
  own_ok _ pa pb x1 pv _ 4 (up (up (up (up (up (up (up (up (fun _ => (0 : Int32)) 0 ((((pa.toUInt32 >>> ((24 : Int32) &&& 31).toUInt32).toInt32).toInt8.toInt32).toInt8.toInt32)) 1 ((((pa.toUInt32 >>> ((16 : Int32) &&& 31).toUInt32).toInt32).toInt8.toInt32).toInt8.toInt32)) 2 ((((pa.toUInt32 >>> ((8 : Int32) &&& 31).toUInt32).toInt32).toInt8.toInt32).toInt8.toInt32)) 3 ((pa.toInt8.toInt32).toInt8.toInt32)) 4 ((((pb.toUInt32 >>> ((24 : Int32) &&& 31).toUInt32).toInt32).toInt8.toInt32).toInt8.toInt32)) 5 ((((pb.toUInt32 >>> ((16 : Int32) &&& 31).toUInt32).toInt32).toInt8.toInt32).toInt8.toInt32)) 6 ((((pb.toUInt32 >>> ((8 : Int32) &&& 31).toUInt32).toInt32).toInt8.toInt32).toInt8.toInt32)) 7 ((pb.toInt8.toInt32).toInt8.toInt32)) ((((pv.toUInt32 >>> ((8 : Int32) &&& 31).toUInt32).toInt32).toInt8.toInt32).toInt8.toInt32) ((pv.toInt8.toInt32).toInt8.toInt32) (x1.toInt.toNat) (by decide) (own_off _ _ hx1).1 (own_off _ _ hx1).2 (if_pos (by decide)) (own_by pv 8 8 8 (by decide) (by decide) (by decide) (by decide)) (own_byl pv) (fun z => absurd z (by decide)) (fun _ => own_by pb ((56 : Int32) - ((8 : Int32) * (4 : Int32))) 24 24 (by decide) (by decide) (by decide) (by decide))
theorem own_ok5 (pa pb pf pv x1 : Int32) (hx1 : x1 = ((pf &&& (2147483647 : Int32)) % (7 : Int32))) : (fn10 (5 : Int32) pa pb x1 pv (fun j => if j < 8 then (up (up (up (up (up (up (up (up (up (up (fun _ => (0 : Int32)) 0 ((((pa.toUInt32 >>> ((24 : Int32) &&& 31).toUInt32).toInt32).toInt8.toInt32).toInt8.toInt32)) 1 ((((pa.toUInt32 >>> ((16 : Int32) &&& 31).toUInt32).toInt32).toInt8.toInt32).toInt8.toInt32)) 2 ((((pa.toUInt32 >>> ((8 : Int32) &&& 31).toUInt32).toInt32).toInt8.toInt32).toInt8.toInt32)) 3 ((pa.toInt8.toInt32).toInt8.toInt32)) 4 ((((pb.toUInt32 >>> ((24 : Int32) &&& 31).toUInt32).toInt32).toInt8.toInt32).toInt8.toInt32)) 5 ((((pb.toUInt32 >>> ((16 : Int32) &&& 31).toUInt32).toInt32).toInt8.toInt32).toInt8.toInt32)) 6 ((((pb.toUInt32 >>> ((8 : Int32) &&& 31).toUInt32).toInt32).toInt8.toInt32).toInt8.toInt32)) 7 ((pb.toInt8.toInt32).toInt8.toInt32)) (x1.toInt.toNat) ((((pv.toUInt32 >>> ((8 : Int32) &&& 31).toUInt32).toInt32).toInt8.toInt32).toInt8.toInt32)) ((x1.toInt.toNat) + 1) ((pv.toInt8.toInt32).toInt8.toInt32)) j else (fun _ => (0 : Int32)) j) 5) = (1 : Int32) :=
  own_ok _ pa pb x1 pv _ 5 (up (up (up (up (up (up (up (up (fun _ => (0 : Int32)) 0 ((((pa.toUInt32 >>> ((24 : Int32) &&& 31).toUInt32).toInt32).toInt8.toInt32).toInt8.toInt32)) 1 ((((pa.toUInt32 >>> ((16 : Int32) &&& 31).toUInt32).toInt32).toInt8.toInt32).toInt8.toInt32)) 2 ((((pa.toUInt32 >>> ((8 : Int32) &&& 31).toUInt32).toInt32).toInt8.toInt32).toInt8.toInt32)) 3 ((pa.toInt8.toInt32).toInt8.toInt32)) 4 ((((pb.toUInt32 >>> ((24 : Int32) &&& 31).toUInt32).toInt32).toInt8.toInt32).toInt8.toInt32)) 5 ((((pb.toUInt32 >>> ((16 : Int32) &&& 31).toUInt32).toInt32).toInt8.toInt32).toInt8.toInt32)) 6 ((((pb.toUInt32 >>> ((8 : Int32) &&& 31).toUInt32).toInt32).toInt8.toInt32).toInt8.toInt32)) 7 ((pb.toInt8.toInt32).toInt8.toInt32)) ((((pv.toUInt32 >>> ((8 : Int32) &&& 31).toUInt32).toInt32).toInt8.toInt32).toInt8.toInt32) ((pv.toInt8.toInt32).toInt8.toInt32) (x1.toInt.toNat) (by decide) (own_off _ _ hx1).1 (own_off _ _ hx1).2 (if_pos (by decide)) (own_by pv 8 8 8 (by decide) (by decide) (by decide) (by decide)) (own_byl pv) (fun z => absurd z (by decide)) (fun _ => own_by pb ((56 : Int32) - ((8 : Int32) * (5 : Int32))) 16 16 (by decide) (by decide) (by decide) (by decide))
theorem own_ok6 (pa pb pf pv x1 : Int32) (hx1 : x1 = ((pf &&& (2147483647 : Int32)) % (7 : Int32))) : (fn10 (6 : Int32) pa pb x1 pv (fun j => if j < 8 then (up (up (up (up (up (up (up (up (up (up (fun _ => (0 : Int32)) 0 ((((pa.toUInt32 >>> ((24 : Int32) &&& 31).toUInt32).toInt32).toInt8.toInt32).toInt8.toInt32)) 1 ((((pa.toUInt32 >>> ((16 : Int32) &&& 31).toUInt32).toInt32).toInt8.toInt32).toInt8.toInt32)) 2 ((((pa.toUInt32 >>> ((8 : Int32) &&& 31).toUInt32).toInt32).toInt8.toInt32).toInt8.toInt32)) 3 ((pa.toInt8.toInt32).toInt8.toInt32)) 4 ((((pb.toUInt32 >>> ((24 : Int32) &&& 31).toUInt32).toInt32).toInt8.toInt32).toInt8.toInt32)) 5 ((((pb.toUInt32 >>> ((16 : Int32) &&& 31).toUInt32).toInt32).toInt8.toInt32).toInt8.toInt32)) 6 ((((pb.toUInt32 >>> ((8 : Int32) &&& 31).toUInt32).toInt32).toInt8.toInt32).toInt8.toInt32)) 7 ((pb.toInt8.toInt32).toInt8.toInt32)) (x1.toInt.toNat) ((((pv.toUInt32 >>> ((8 : Int32) &&& 31).toUInt32).toInt32).toInt8.toInt32).toInt8.toInt32)) ((x1.toInt.toNat) + 1) ((pv.toInt8.toInt32).toInt8.toInt32)) j else (fun _ => (0 : Int32)) j) 6) = (1 : Int32) :=
  own_ok _ pa pb x1 pv _ 6 (up (up (up (up (up (up (up (up (fun _ => (0 : Int32)) 0 ((((pa.toUInt32 >>> ((24 : Int32) &&& 31).toUInt32).toInt32).toInt8.toInt32).toInt8.toInt32)) 1 ((((pa.toUInt32 >>> ((16 : Int32) &&& 31).toUInt32).toInt32).toInt8.toInt32).toInt8.toInt32)) 2 ((((pa.toUInt32 >>> ((8 : Int32) &&& 31).toUInt32).toInt32).toInt8.toInt32).toInt8.toInt32)) 3 ((pa.toInt8.toInt32).toInt8.toInt32)) 4 ((((pb.toUInt32 >>> ((24 : Int32) &&& 31).toUInt32).toInt32).toInt8.toInt32).toInt8.toInt32)) 5 ((((pb.toUInt32 >>> ((16 : Int32) &&& 31).toUInt32).toInt32).toInt8.toInt32).toInt8.toInt32)) 6 ((((pb.toUInt32 >>> ((8 : Int32) &&& 31).toUInt32).toInt32).toInt8.toInt32).toInt8.toInt32)) 7 ((pb.toInt8.toInt32).toInt8.toInt32)) ((((pv.toUInt32 >>> ((8 : Int32) &&& 31).toUInt32).toInt32).toInt8.toInt32).toInt8.toInt32) ((pv.toInt8.toInt32).toInt8.toInt32) (x1.toInt.toNat) (by decide) (own_off _ _ hx1).1 (own_off _ _ hx1).2 (if_pos (by decide)) (own_by pv 8 8 8 (by decide) (by decide) (by decide) (by decide)) (own_byl pv) (fun z => absurd z (by decide)) (fun _ => own_by pb ((56 : Int32) - ((8 : Int32) * (6 : Int32))) 8 8 (by decide) (by decide) (by decide) (by decide))
theorem own_ok7 (pa pb pf pv x1 : Int32) (hx1 : x1 = ((pf &&& (2147483647 : Int32)) % (7 : Int32))) : (fn10 (7 : Int32) pa pb x1 pv (fun j => if j < 8 then (up (up (up (up (up (up (up (up (up (up (fun _ => (0 : Int32)) 0 ((((pa.toUInt32 >>> ((24 : Int32) &&& 31).toUInt32).toInt32).toInt8.toInt32).toInt8.toInt32)) 1 ((((pa.toUInt32 >>> ((16 : Int32) &&& 31).toUInt32).toInt32).toInt8.toInt32).toInt8.toInt32)) 2 ((((pa.toUInt32 >>> ((8 : Int32) &&& 31).toUInt32).toInt32).toInt8.toInt32).toInt8.toInt32)) 3 ((pa.toInt8.toInt32).toInt8.toInt32)) 4 ((((pb.toUInt32 >>> ((24 : Int32) &&& 31).toUInt32).toInt32).toInt8.toInt32).toInt8.toInt32)) 5 ((((pb.toUInt32 >>> ((16 : Int32) &&& 31).toUInt32).toInt32).toInt8.toInt32).toInt8.toInt32)) 6 ((((pb.toUInt32 >>> ((8 : Int32) &&& 31).toUInt32).toInt32).toInt8.toInt32).toInt8.toInt32)) 7 ((pb.toInt8.toInt32).toInt8.toInt32)) (x1.toInt.toNat) ((((pv.toUInt32 >>> ((8 : Int32) &&& 31).toUInt32).toInt32).toInt8.toInt32).toInt8.toInt32)) ((x1.toInt.toNat) + 1) ((pv.toInt8.toInt32).toInt8.toInt32)) j else (fun _ => (0 : Int32)) j) 7) = (1 : Int32) :=
  own_ok _ pa pb x1 pv _ 7 (up (up (up (up (up (up (up (up (fun _ => (0 : Int32)) 0 ((((pa.toUInt32 >>> ((24 : Int32) &&& 31).toUInt32).toInt32).toInt8.toInt32).toInt8.toInt32)) 1 ((((pa.toUInt32 >>> ((16 : Int32) &&& 31).toUInt32).toInt32).toInt8.toInt32).toInt8.toInt32)) 2 ((((pa.toUInt32 >>> ((8 : Int32) &&& 31).toUInt32).toInt32).toInt8.toInt32).toInt8.toInt32)) 3 ((pa.toInt8.toInt32).toInt8.toInt32)) 4 ((((pb.toUInt32 >>> ((24 : Int32) &&& 31).toUInt32).toInt32).toInt8.toInt32).toInt8.toInt32)) 5 ((((pb.toUInt32 >>> ((16 : Int32) &&& 31).toUInt32).toInt32).toInt8.toInt32).toInt8.toInt32)) 6 ((((pb.toUInt32 >>> ((8 : Int32) &&& 31).toUInt32).toInt32).toInt8.toInt32).toInt8.toInt32)) 7 ((pb.toInt8.toInt32).toInt8.toInt32)) ((((pv.toUInt32 >>> ((8 : Int32) &&& 31).toUInt32).toInt32).toInt8.toInt32).toInt8.toInt32) ((pv.toInt8.toInt32).toInt8.toInt32) (x1.toInt.toNat) (by decide) (own_off _ _ hx1).1 (own_off _ _ hx1).2 (if_pos (by decide)) (own_by pv 8 8 8 (by decide) (by decide) (by decide) (by decide)) (own_byl pv) (fun z => absurd z (by decide)) (fun _ => own_by0 pb ((56 : Int32) - ((8 : Int32) * (7 : Int32))) (by decide))
theorem ef0 (m : MethodId) (pa : Int32) (pb : Int32) (pf : Int32) (pv : Int32) : entryFrame m #[(.int pa), (.int pb), (.int pf), (.int pv)] maxLocals = mkF m 0 #[.val (.int pa), .val (.int pb), .val (.int pf), .val (.int pv), .unset, .unset, .unset] [] := by first | (simp [entryFrame, mkF, argsToLocals, Value.category, maxLocals]; done) | rfl
def Q0 (Z : State) (pa : Int32) (pb : Int32) (pf : Int32) (pv : Int32) (h0 : Heap) (n0 : Nat) (v : Option Value) (h : Heap) (L : List Loc) : Prop := v = some (.int (1 : Int32)) ∧ Fr n0 L
set_option maxRecDepth 65536 in
set_option maxHeartbeats 40000000 in
theorem rm0 (l : Launch) (Z : State) (a0 : Array Value) (hw : ∀ d ∈ tables_1, d.before a0 Z = true) (ws : List Jvm.Cond) (pa : Int32) (pb : Int32) (pf : Int32) (pv : Int32) (h0 : Heap) (n0 : Nat) (Z0 : n0 ≤ h0.size) :
    MetFree l x (head1 (Jvm.Cond.code x code maxLocals ret :: ws) room_1) (fun a U => a = #[(.int pa), (.int pb), (.int pf), (.int pv)] ∧ Z.Warmed39 U.vm ∧ U.heap = h0) (fun _ _ _ _ _ => True) (fun _ U o U' => ∃ v L, o = .returned v ∧ Q0 Z pa pb pf pv h0 n0 v U'.heap L ∧ FrameEnd U o U' L room_1.cells room_1.slots) := by
  refine MetFree.of_bodySF (plainFor_of_name pn_2) hisR ?_
  intro p e s m args below meth c s₁ Bd hml0 hP hK
  obtain ⟨rfl, hZ, hh⟩ := hP
  have hx := Bd.exec
  have hby := Bd.bytes
  have hml : c.maxLocals = 7 := hml0
  have hown : s.vm.findClass "com/example/javelot/javelot/classfile/ByteWriterPutU2PinLaw" = some m.cls := findClass_of_methodNamed Bd.named
  have hnm := (name_of_methodNamed Bd.named Bd.method).1
  have X0 : Stand p l e room_1 s m #[(.int pa), (.int pb), (.int pf), (.int pv)] below meth c s₁ [] 0 0 := Stand.of_body Bd
  have e0 : s₁.heap = h0 := by rw [← hh, Bd.state]; rfl
  have N0 := Fr.nil n0
  refine Goes.by (fun _ k => castTop (ef0 m pa pb pf pv) k) ?_
  show Goes p.tables e below (s₁.setTop (mkF m 0 #[.val (.int pa), .val (.int pb), .val (.int pf), .val (.int pv), .unset, .unset, .unset] [])) _
  refine Goes.by (fun _ k => XS.iloadN X0.here hx rfl (hb hby at_0) rfl k) ?_
  show Goes p.tables e below (s₁.setTop (mkF m 1 #[.val (.int pa), .val (.int pb), .val (.int pf), .val (.int pv), .unset, .unset, .unset] [(.int pf)])) _
  refine Goes.by (fun _ k => X0.ldcI hx hown (mvT hZ (hw _ (List.mem_of_getElem? (i := 0) rfl))) (g := (mkF m 1 #[.val (.int pa), .val (.int pb), .val (.int pf), .val (.int pv), .unset, .unset, .unset] [(.int pf)])) rfl (hb hby at_1) k) ?_
  show Goes p.tables e below (s₁.setTop (mkF m 3 #[.val (.int pa), .val (.int pb), .val (.int pf), .val (.int pv), .unset, .unset, .unset] [(.int (2147483647 : Int32)), (.int pf)])) _
  refine Goes.by (fun _ k => XS.iand X0.here hx rfl (hb hby at_3) rfl k) ?_
  show Goes p.tables e below (s₁.setTop (mkF m 4 #[.val (.int pa), .val (.int pb), .val (.int pf), .val (.int pv), .unset, .unset, .unset] [(.int (pf &&& (2147483647 : Int32)))])) _
  refine Goes.by (fun _ k => XS.bipush X0.here hx rfl (hb hby at_4) k) ?_
  show Goes p.tables e below (s₁.setTop (mkF m 6 #[.val (.int pa), .val (.int pb), .val (.int pf), .val (.int pv), .unset, .unset, .unset] [(.int (7 : Int32)), (.int (pf &&& (2147483647 : Int32)))])) _
  refine Goes.by (fun _ k => iremM X0 hx rfl (hb hby at_6) rfl (by decide) k) ?_
  show Goes p.tables e below (s₁.setTop (mkF m 7 #[.val (.int pa), .val (.int pb), .val (.int pf), .val (.int pv), .unset, .unset, .unset] [(.int ((pf &&& (2147483647 : Int32)) % (7 : Int32)))])) _
  obtain ⟨x1, hx1⟩ : ∃ z : Int32, z = ((pf &&& (2147483647 : Int32)) % (7 : Int32)) := ⟨_, rfl⟩
  refine Goes.by (fun _ k => XS.istore X0.here hx rfl (hb hby at_7) rfl (l' := #[.val (.int pa), .val (.int pb), .val (.int pf), .val (.int pv), .val (.int x1), .unset, .unset]) (by rw [hx1]; rfl) k) ?_
  show Goes p.tables e below (s₁.setTop (mkF m 9 #[.val (.int pa), .val (.int pb), .val (.int pf), .val (.int pv), .val (.int x1), .unset, .unset] [])) _
  obtain ⟨T2, h2, X2, e2, E2, A2, D2, -, st2⟩ := newO X0 hx hZ hown (hw _ (List.mem_of_getElem? (i := 1) rfl)) (hw _ (List.mem_of_getElem? (i := 2) rfl)) (hw _ (List.mem_of_getElem? (i := 3) rfl)) e0 (g := (mkF m 9 #[.val (.int pa), .val (.int pb), .val (.int pf), .val (.int pv), .val (.int x1), .unset, .unset] [])) rfl (hb hby at_9) (by decide) (by decide)
  obtain ⟨b2, g2⟩ : ∃ z, z = h0.size := ⟨_, rfl⟩
  rw [← g2] at A2 D2 st2
  have g_b2 : n0 ≤ b2 := Nat.le_trans Z0 (Nat.le_of_eq g2.symm)
  have sz_b2 : h0.size ≤ b2 := Nat.le_trans (Keep.refl h0 []).1 (Nat.le_of_eq g2.symm)
  have Zs2 : n0 ≤ h2.size := Nat.le_trans Z0 E2.1
  have K2 : Keep h0 h2 [] := (Keep.refl h0 []).ext E2
  refine Goes.by st2 ?_
  have E_b2 : Exa Z h2 b2 "com/example/javelot/javelot/classfile/ByteWriter" := A2
  have F_b2_bytes : Fld Z h2 b2 "com/example/javelot/javelot/classfile/ByteWriter" "bytes" "[B" .null := D2 (Or.inl (hw _ (List.mem_of_getElem? (i := 12) rfl))) (ty := (.array .byte)) (by decide)
  have F_b2_size : Fld Z h2 b2 "com/example/javelot/javelot/classfile/ByteWriter" "size" "I" (.int (0 : Int32)) := D2 (Or.inl (hw _ (List.mem_of_getElem? (i := 23) rfl))) (ty := .int) (by decide)
  show Goes p.tables e below (T2.setTop (mkF m 12 #[.val (.int pa), .val (.int pb), .val (.int pf), .val (.int pv), .val (.int x1), .unset, .unset] [(.ref b2)])) _
  refine Goes.by (fun _ k => XS.dup X2.here hx rfl (hb hby at_12) rfl rfl k) ?_
  show Goes p.tables e below (T2.setTop (mkF m 13 #[.val (.int pa), .val (.int pb), .val (.int pf), .val (.int pv), .val (.int x1), .unset, .unset] [(.ref b2), (.ref b2)])) _
  obtain ⟨_, _, ⟨T3, L3, k3, n3⟩, -, X3, ⟨Lc3, hQ3, l3, y3, z3⟩, st3⟩ := X2.specialBack hx (y := (⟨"com/example/javelot/javelot/classfile/ByteWriter", "<init>", "()V"⟩ : MethodName)) rfl hown (mvT hZ (hw _ (List.mem_of_getElem? (i := 4) rfl))) (mvT hZ (hw _ (List.mem_of_getElem? (i := 5) rfl))) (mvT hZ (hw _ (List.mem_of_getElem? (i := 6) rfl))) (by decide) (backOf (W := 1) (rm1 l Z a0 hw [] b2 h2 n0 Zs2 E_b2 F_b2_bytes F_b2_size g_b2) hZ (hw _ (List.mem_of_getElem? (i := 6) rfl)) (hw _ (List.mem_of_getElem? (i := 3) rfl)) (by decide) (by decide)) (g := (mkF m 13 #[.val (.int pa), .val (.int pb), .val (.int pf), .val (.int pv), .val (.int x1), .unset, .unset] [(.ref b2), (.ref b2)])) rfl (by rw [hml]; rfl) (Steps.refl _) (a := b2) (argsL := []) (rest := [(.ref b2)]) (lenOf pd_3 rfl) rfl (by show 2 * 0 + _ ≤ _; exact Nat.le_of_eq rfl) (hb hby at_13) (fun _ _ => ⟨rfl, e2, (by decide : 1 + 1 ≤ _), (by decide : 2 + 256 ≤ _)⟩)
  dsimp only [Pt.U, Pt.locs, Pt.cells, Pt.slots] at X3 l3 y3 z3 st3 hQ3
  subst l3 y3 z3
  obtain ⟨ob_3, rfl, N3q, Kq3, po3_0, po3_1, po3_2, po3_3, po3_4, po3_5⟩ := hQ3
  have N3 := Fr.app N0 N3q
  refine Goes.via st3 ?_
  have Zs3 : n0 ≤ T3.heap.size := Nat.le_trans Zs2 Kq3.1
  have K3 : Keep h0 T3.heap [] := K2.trans Kq3 (allS (Or.inr sz_b2) all0)
  have lt3_b2 := E_b2.lt
  have sz_ob_3 : h0.size ≤ ob_3 := Nat.le_trans K2.1 po3_4
  have g_ob_3 : n0 ≤ ob_3 := Nat.le_trans Zs2 po3_4
  have ne_b2_ob_3 : b2 ≠ ob_3 := Nat.ne_of_lt (Nat.lt_of_lt_of_le lt3_b2 po3_4)
  have E_b2 : Exa Z T3.heap b2 "com/example/javelot/javelot/classfile/ByteWriter" := E_b2.keep Kq3
  have E_b2 : Exa Z T3.heap b2 "com/example/javelot/javelot/classfile/ByteWriter" := po3_0
  have F_b2_bytes : Fld Z T3.heap b2 "com/example/javelot/javelot/classfile/ByteWriter" "bytes" "[B" (.ref ob_3) := po3_1
  have F_b2_size : Fld Z T3.heap b2 "com/example/javelot/javelot/classfile/ByteWriter" "size" "I" (.int (0 : Int32)) := po3_2
  have A_ob_3 : AI Z T3.heap ob_3 .byte 256 (fun _ => (0 : Int32)) := po3_3
  have ne_b2_ob_3 := po3_5
  show Goes p.tables e below (T3.setTop (mkF m 16 #[.val (.int pa), .val (.int pb), .val (.int pf), .val (.int pv), .val (.int x1), .unset, .unset] [(.ref b2)])) _
  refine Goes.by (fun _ k => XS.astore X3.here hx rfl (hb hby at_16) rfl rfl (l' := #[.val (.int pa), .val (.int pb), .val (.int pf), .val (.int pv), .val (.int x1), .val (.ref b2), .unset]) rfl k) ?_
  show Goes p.tables e below (T3.setTop (mkF m 18 #[.val (.int pa), .val (.int pb), .val (.int pf), .val (.int pv), .val (.int x1), .val (.ref b2), .unset] [])) _
  refine Goes.by (fun _ k => XS.aload X3.here hx rfl (hb hby at_18) rfl rfl k) ?_
  show Goes p.tables e below (T3.setTop (mkF m 20 #[.val (.int pa), .val (.int pb), .val (.int pf), .val (.int pv), .val (.int x1), .val (.ref b2), .unset] [(.ref b2)])) _
  refine Goes.by (fun _ k => XS.iloadN X3.here hx rfl (hb hby at_20) rfl k) ?_
  show Goes p.tables e below (T3.setTop (mkF m 21 #[.val (.int pa), .val (.int pb), .val (.int pf), .val (.int pv), .val (.int x1), .val (.ref b2), .unset] [(.int pa), (.ref b2)])) _
  obtain ⟨cq4, kq4, q4a, q4b, q4c⟩ := isOf hZ rfl E_b2
  obtain ⟨_, _, ⟨T4, L4, k4, n4⟩, -, X4, ⟨Lc4, hQ4, l4, y4, z4⟩, st4⟩ := X3.virtualBack hx (y := (⟨"com/example/javelot/javelot/classfile/ByteWriter", "u4", "(I)V"⟩ : MethodName)) (z := (⟨"com/example/javelot/javelot/classfile/ByteWriter", "u4", "(I)V"⟩ : MethodName)) hown (mvT hZ (hw _ (List.mem_of_getElem? (i := 13) rfl))) (mvT hZ (hw _ (List.mem_of_getElem? (i := 14) rfl))) (notFace_of_selects (args := #[]) (mvT hZ (hw _ (List.mem_of_getElem? (i := 16) rfl)))) (mvT hZ (hw _ (List.mem_of_getElem? (i := 16) rfl))) (mvT hZ (hw _ (List.mem_of_getElem? (i := 15) rfl))) (by decide) (backOf (W := 0) (rm3s0 l Z a0 hw [] b2 pa ob_3 (fun _ => (0 : Int32)) T3.heap n0 Zs3 E_b2 F_b2_bytes F_b2_size A_ob_3 ne_b2_ob_3 g_b2 g_ob_3) hZ (hw _ (List.mem_of_getElem? (i := 17) rfl)) (hw _ (List.mem_of_getElem? (i := 3) rfl)) (by decide) (by decide)) q4a q4c (g := (mkF m 21 #[.val (.int pa), .val (.int pb), .val (.int pf), .val (.int pv), .val (.int x1), .val (.ref b2), .unset] [(.int pa), (.ref b2)])) rfl (by rw [hml]; rfl) (Steps.refl _) (argsL := [(.int pa)]) (rest := []) (lenOf pd_0 rfl) rfl (by show 2 * 0 + _ ≤ _; exact Nat.le_of_eq rfl) (hb hby at_21) (fun _ _ => ⟨rfl, rfl, (by decide : 2 + 0 ≤ _), (by decide : 258 + 0 ≤ _)⟩)
  dsimp only [Pt.U, Pt.locs, Pt.cells, Pt.slots] at X4 l4 y4 z4 st4 hQ4
  subst l4 y4 z4
  obtain ⟨rfl, N4q, Kq4, po4_0, po4_1, po4_2, po4_3⟩ := hQ4
  have N4 := Fr.app N3 N4q
  refine Goes.via st4 ?_
  have Zs4 : n0 ≤ T4.heap.size := Nat.le_trans Zs3 Kq4.1
  have K4 : Keep h0 T4.heap [] := K3.trans Kq4 (allS (Or.inr sz_b2) (allS (Or.inr sz_ob_3) all0))
  have E_b2 : Exa Z T4.heap b2 "com/example/javelot/javelot/classfile/ByteWriter" := E_b2.keep Kq4
  have E_b2 : Exa Z T4.heap b2 "com/example/javelot/javelot/classfile/ByteWriter" := po4_0
  have F_b2_bytes : Fld Z T4.heap b2 "com/example/javelot/javelot/classfile/ByteWriter" "bytes" "[B" (.ref ob_3) := po4_1
  have F_b2_size : Fld Z T4.heap b2 "com/example/javelot/javelot/classfile/ByteWriter" "size" "I" (.int (4 : Int32)) := po4_2
  have A_ob_3 : AI Z T4.heap ob_3 .byte 256 (up (up (up (up (fun _ => (0 : Int32)) 0 ((((pa.toUInt32 >>> ((24 : Int32) &&& 31).toUInt32).toInt32).toInt8.toInt32).toInt8.toInt32)) 1 ((((pa.toUInt32 >>> ((16 : Int32) &&& 31).toUInt32).toInt32).toInt8.toInt32).toInt8.toInt32)) 2 ((((pa.toUInt32 >>> ((8 : Int32) &&& 31).toUInt32).toInt32).toInt8.toInt32).toInt8.toInt32)) 3 ((pa.toInt8.toInt32).toInt8.toInt32)) := po4_3
  show Goes p.tables e below (T4.setTop (mkF m 24 #[.val (.int pa), .val (.int pb), .val (.int pf), .val (.int pv), .val (.int x1), .val (.ref b2), .unset] [])) _
  refine Goes.by (fun _ k => XS.aload X4.here hx rfl (hb hby at_24) rfl rfl k) ?_
  show Goes p.tables e below (T4.setTop (mkF m 26 #[.val (.int pa), .val (.int pb), .val (.int pf), .val (.int pv), .val (.int x1), .val (.ref b2), .unset] [(.ref b2)])) _
  refine Goes.by (fun _ k => XS.iloadN X4.here hx rfl (hb hby at_26) rfl k) ?_
  show Goes p.tables e below (T4.setTop (mkF m 27 #[.val (.int pa), .val (.int pb), .val (.int pf), .val (.int pv), .val (.int x1), .val (.ref b2), .unset] [(.int pb), (.ref b2)])) _
  obtain ⟨cq5, kq5, q5a, q5b, q5c⟩ := isOf hZ rfl E_b2
  obtain ⟨_, _, ⟨T5, L5, k5, n5⟩, -, X5, ⟨Lc5, hQ5, l5, y5, z5⟩, st5⟩ := X4.virtualBack hx (y := (⟨"com/example/javelot/javelot/classfile/ByteWriter", "u4", "(I)V"⟩ : MethodName)) (z := (⟨"com/example/javelot/javelot/classfile/ByteWriter", "u4", "(I)V"⟩ : MethodName)) hown (mvT hZ (hw _ (List.mem_of_getElem? (i := 13) rfl))) (mvT hZ (hw _ (List.mem_of_getElem? (i := 14) rfl))) (notFace_of_selects (args := #[]) (mvT hZ (hw _ (List.mem_of_getElem? (i := 16) rfl)))) (mvT hZ (hw _ (List.mem_of_getElem? (i := 16) rfl))) (mvT hZ (hw _ (List.mem_of_getElem? (i := 15) rfl))) (by decide) (backOf (W := 0) (rm3s4 l Z a0 hw [] b2 pb ob_3 (up (up (up (up (fun _ => (0 : Int32)) 0 ((((pa.toUInt32 >>> ((24 : Int32) &&& 31).toUInt32).toInt32).toInt8.toInt32).toInt8.toInt32)) 1 ((((pa.toUInt32 >>> ((16 : Int32) &&& 31).toUInt32).toInt32).toInt8.toInt32).toInt8.toInt32)) 2 ((((pa.toUInt32 >>> ((8 : Int32) &&& 31).toUInt32).toInt32).toInt8.toInt32).toInt8.toInt32)) 3 ((pa.toInt8.toInt32).toInt8.toInt32)) T4.heap n0 Zs4 E_b2 F_b2_bytes F_b2_size A_ob_3 ne_b2_ob_3 g_b2 g_ob_3) hZ (hw _ (List.mem_of_getElem? (i := 17) rfl)) (hw _ (List.mem_of_getElem? (i := 3) rfl)) (by decide) (by decide)) q5a q5c (g := (mkF m 27 #[.val (.int pa), .val (.int pb), .val (.int pf), .val (.int pv), .val (.int x1), .val (.ref b2), .unset] [(.int pb), (.ref b2)])) rfl (by rw [hml]; rfl) (Steps.refl _) (argsL := [(.int pb)]) (rest := []) (lenOf pd_0 rfl) rfl (by show 2 * 0 + _ ≤ _; exact Nat.le_of_eq rfl) (hb hby at_27) (fun _ _ => ⟨rfl, rfl, (by decide : 2 + 0 ≤ _), (by decide : 258 + 0 ≤ _)⟩)
  dsimp only [Pt.U, Pt.locs, Pt.cells, Pt.slots] at X5 l5 y5 z5 st5 hQ5
  subst l5 y5 z5
  obtain ⟨rfl, N5q, Kq5, po5_0, po5_1, po5_2, po5_3⟩ := hQ5
  have N5 := Fr.app N4 N5q
  refine Goes.via st5 ?_
  have Zs5 : n0 ≤ T5.heap.size := Nat.le_trans Zs4 Kq5.1
  have K5 : Keep h0 T5.heap [] := K4.trans Kq5 (allS (Or.inr sz_b2) (allS (Or.inr sz_ob_3) all0))
  have E_b2 : Exa Z T5.heap b2 "com/example/javelot/javelot/classfile/ByteWriter" := E_b2.keep Kq5
  have E_b2 : Exa Z T5.heap b2 "com/example/javelot/javelot/classfile/ByteWriter" := po5_0
  have F_b2_bytes : Fld Z T5.heap b2 "com/example/javelot/javelot/classfile/ByteWriter" "bytes" "[B" (.ref ob_3) := po5_1
  have F_b2_size : Fld Z T5.heap b2 "com/example/javelot/javelot/classfile/ByteWriter" "size" "I" (.int (8 : Int32)) := po5_2
  have A_ob_3 : AI Z T5.heap ob_3 .byte 256 (up (up (up (up (up (up (up (up (fun _ => (0 : Int32)) 0 ((((pa.toUInt32 >>> ((24 : Int32) &&& 31).toUInt32).toInt32).toInt8.toInt32).toInt8.toInt32)) 1 ((((pa.toUInt32 >>> ((16 : Int32) &&& 31).toUInt32).toInt32).toInt8.toInt32).toInt8.toInt32)) 2 ((((pa.toUInt32 >>> ((8 : Int32) &&& 31).toUInt32).toInt32).toInt8.toInt32).toInt8.toInt32)) 3 ((pa.toInt8.toInt32).toInt8.toInt32)) 4 ((((pb.toUInt32 >>> ((24 : Int32) &&& 31).toUInt32).toInt32).toInt8.toInt32).toInt8.toInt32)) 5 ((((pb.toUInt32 >>> ((16 : Int32) &&& 31).toUInt32).toInt32).toInt8.toInt32).toInt8.toInt32)) 6 ((((pb.toUInt32 >>> ((8 : Int32) &&& 31).toUInt32).toInt32).toInt8.toInt32).toInt8.toInt32)) 7 ((pb.toInt8.toInt32).toInt8.toInt32)) := po5_3
  show Goes p.tables e below (T5.setTop (mkF m 30 #[.val (.int pa), .val (.int pb), .val (.int pf), .val (.int pv), .val (.int x1), .val (.ref b2), .unset] [])) _
  refine Goes.by (fun _ k => XS.aload X5.here hx rfl (hb hby at_30) rfl rfl k) ?_
  show Goes p.tables e below (T5.setTop (mkF m 32 #[.val (.int pa), .val (.int pb), .val (.int pf), .val (.int pv), .val (.int x1), .val (.ref b2), .unset] [(.ref b2)])) _
  refine Goes.by (fun _ k => XS.iload X5.here hx rfl (hb hby at_32) rfl k) ?_
  show Goes p.tables e below (T5.setTop (mkF m 34 #[.val (.int pa), .val (.int pb), .val (.int pf), .val (.int pv), .val (.int x1), .val (.ref b2), .unset] [(.int x1), (.ref b2)])) _
  refine Goes.by (fun _ k => XS.iloadN X5.here hx rfl (hb hby at_34) rfl k) ?_
  show Goes p.tables e below (T5.setTop (mkF m 35 #[.val (.int pa), .val (.int pb), .val (.int pf), .val (.int pv), .val (.int x1), .val (.ref b2), .unset] [(.int pv), (.int x1), (.ref b2)])) _
  obtain ⟨cq6, kq6, q6a, q6b, q6c⟩ := isOf hZ rfl E_b2
  obtain ⟨_, _, ⟨T6, L6, k6, n6⟩, -, X6, ⟨Lc6, hQ6, l6, y6, z6⟩, st6⟩ := X5.virtualBack hx (y := (⟨"com/example/javelot/javelot/classfile/ByteWriter", "putU2", "(II)V"⟩ : MethodName)) (z := (⟨"com/example/javelot/javelot/classfile/ByteWriter", "putU2", "(II)V"⟩ : MethodName)) hown (mvT hZ (hw _ (List.mem_of_getElem? (i := 24) rfl))) (mvT hZ (hw _ (List.mem_of_getElem? (i := 25) rfl))) (notFace_of_selects (args := #[]) (mvT hZ (hw _ (List.mem_of_getElem? (i := 27) rfl)))) (mvT hZ (hw _ (List.mem_of_getElem? (i := 27) rfl))) (mvT hZ (hw _ (List.mem_of_getElem? (i := 26) rfl))) (by decide) (backOf (W := 0) (rm5 l Z a0 hw [] b2 x1 pv ob_3 (up (up (up (up (up (up (up (up (fun _ => (0 : Int32)) 0 ((((pa.toUInt32 >>> ((24 : Int32) &&& 31).toUInt32).toInt32).toInt8.toInt32).toInt8.toInt32)) 1 ((((pa.toUInt32 >>> ((16 : Int32) &&& 31).toUInt32).toInt32).toInt8.toInt32).toInt8.toInt32)) 2 ((((pa.toUInt32 >>> ((8 : Int32) &&& 31).toUInt32).toInt32).toInt8.toInt32).toInt8.toInt32)) 3 ((pa.toInt8.toInt32).toInt8.toInt32)) 4 ((((pb.toUInt32 >>> ((24 : Int32) &&& 31).toUInt32).toInt32).toInt8.toInt32).toInt8.toInt32)) 5 ((((pb.toUInt32 >>> ((16 : Int32) &&& 31).toUInt32).toInt32).toInt8.toInt32).toInt8.toInt32)) 6 ((((pb.toUInt32 >>> ((8 : Int32) &&& 31).toUInt32).toInt32).toInt8.toInt32).toInt8.toInt32)) 7 ((pb.toInt8.toInt32).toInt8.toInt32)) (x1.toInt.toNat) T5.heap n0 Zs5 F_b2_bytes A_ob_3 ((own_off _ _ hx1).1) ((own_off _ _ hx1).2) ne_b2_ob_3 g_ob_3) hZ (hw _ (List.mem_of_getElem? (i := 28) rfl)) (hw _ (List.mem_of_getElem? (i := 3) rfl)) (by decide) (by decide)) q6a q6c (g := (mkF m 35 #[.val (.int pa), .val (.int pb), .val (.int pf), .val (.int pv), .val (.int x1), .val (.ref b2), .unset] [(.int pv), (.int x1), (.ref b2)])) rfl (by rw [hml]; rfl) (Steps.refl _) (argsL := [(.int x1), (.int pv)]) (rest := []) (lenOf pd_4 rfl) rfl (by show 2 * 0 + _ ≤ _; exact Nat.le_of_eq rfl) (hb hby at_35) (fun _ _ => ⟨rfl, rfl, (by decide : 2 + 0 ≤ _), (by decide : 258 + 0 ≤ _)⟩)
  dsimp only [Pt.U, Pt.locs, Pt.cells, Pt.slots] at X6 l6 y6 z6 st6 hQ6
  subst l6 y6 z6
  obtain ⟨rfl, N6q, Kq6, po6_0⟩ := hQ6
  have N6 := Fr.app N5 N6q
  refine Goes.via st6 ?_
  have Zs6 : n0 ≤ T6.heap.size := Nat.le_trans Zs5 Kq6.1
  have K6 : Keep h0 T6.heap [] := K5.trans Kq6 (allS (Or.inr sz_ob_3) all0)
  have E_b2 : Exa Z T6.heap b2 "com/example/javelot/javelot/classfile/ByteWriter" := E_b2.keep Kq6
  have F_b2_bytes : Fld Z T6.heap b2 "com/example/javelot/javelot/classfile/ByteWriter" "bytes" "[B" (.ref ob_3) := F_b2_bytes.keep Kq6 (ninS ne_b2_ob_3 nin0)
  have F_b2_size : Fld Z T6.heap b2 "com/example/javelot/javelot/classfile/ByteWriter" "size" "I" (.int (8 : Int32)) := F_b2_size.keep Kq6 (ninS ne_b2_ob_3 nin0)
  have A_ob_3 : AI Z T6.heap ob_3 .byte 256 (up (up (up (up (up (up (up (up (up (up (fun _ => (0 : Int32)) 0 ((((pa.toUInt32 >>> ((24 : Int32) &&& 31).toUInt32).toInt32).toInt8.toInt32).toInt8.toInt32)) 1 ((((pa.toUInt32 >>> ((16 : Int32) &&& 31).toUInt32).toInt32).toInt8.toInt32).toInt8.toInt32)) 2 ((((pa.toUInt32 >>> ((8 : Int32) &&& 31).toUInt32).toInt32).toInt8.toInt32).toInt8.toInt32)) 3 ((pa.toInt8.toInt32).toInt8.toInt32)) 4 ((((pb.toUInt32 >>> ((24 : Int32) &&& 31).toUInt32).toInt32).toInt8.toInt32).toInt8.toInt32)) 5 ((((pb.toUInt32 >>> ((16 : Int32) &&& 31).toUInt32).toInt32).toInt8.toInt32).toInt8.toInt32)) 6 ((((pb.toUInt32 >>> ((8 : Int32) &&& 31).toUInt32).toInt32).toInt8.toInt32).toInt8.toInt32)) 7 ((pb.toInt8.toInt32).toInt8.toInt32)) (x1.toInt.toNat) ((((pv.toUInt32 >>> ((8 : Int32) &&& 31).toUInt32).toInt32).toInt8.toInt32).toInt8.toInt32)) ((x1.toInt.toNat) + 1) ((pv.toInt8.toInt32).toInt8.toInt32)) := po6_0
  show Goes p.tables e below (T6.setTop (mkF m 38 #[.val (.int pa), .val (.int pb), .val (.int pf), .val (.int pv), .val (.int x1), .val (.ref b2), .unset] [])) _
  refine Goes.by (fun _ k => XS.aload X6.here hx rfl (hb hby at_38) rfl rfl k) ?_
  show Goes p.tables e below (T6.setTop (mkF m 40 #[.val (.int pa), .val (.int pb), .val (.int pf), .val (.int pv), .val (.int x1), .val (.ref b2), .unset] [(.ref b2)])) _
  obtain ⟨cq7, kq7, q7a, q7b, q7c⟩ := isOf hZ rfl E_b2
  obtain ⟨_, _, ⟨T7, L7, k7, n7⟩, -, X7, ⟨Lc7, hQ7, l7, y7, z7⟩, st7⟩ := X6.virtualBack hx (y := (⟨"com/example/javelot/javelot/classfile/ByteWriter", "size", "()I"⟩ : MethodName)) (z := (⟨"com/example/javelot/javelot/classfile/ByteWriter", "size", "()I"⟩ : MethodName)) hown (mvT hZ (hw _ (List.mem_of_getElem? (i := 29) rfl))) (mvT hZ (hw _ (List.mem_of_getElem? (i := 30) rfl))) (notFace_of_selects (args := #[]) (mvT hZ (hw _ (List.mem_of_getElem? (i := 32) rfl)))) (mvT hZ (hw _ (List.mem_of_getElem? (i := 32) rfl))) (mvT hZ (hw _ (List.mem_of_getElem? (i := 31) rfl))) (by decide) (backOf (W := 0) (rm6 l Z a0 hw [] b2 (8 : Int32) T6.heap n0 Zs6 F_b2_size) hZ (hw _ (List.mem_of_getElem? (i := 33) rfl)) (hw _ (List.mem_of_getElem? (i := 3) rfl)) (by decide) (by decide)) q7a q7c (g := (mkF m 40 #[.val (.int pa), .val (.int pb), .val (.int pf), .val (.int pv), .val (.int x1), .val (.ref b2), .unset] [(.ref b2)])) rfl (by rw [hml]; rfl) (Steps.refl _) (argsL := []) (rest := []) (lenOf pd_5 rfl) rfl (by show 2 * 0 + _ ≤ _; exact Nat.le_of_eq rfl) (hb hby at_40) (fun _ _ => ⟨rfl, rfl, (by decide : 2 + 0 ≤ _), (by decide : 258 + 0 ≤ _)⟩)
  dsimp only [Pt.U, Pt.locs, Pt.cells, Pt.slots] at X7 l7 y7 z7 st7 hQ7
  subst l7 y7 z7
  obtain ⟨rfl, N7q, e7⟩ := hQ7
  have N7 := Fr.app N6 N7q
  refine Goes.via st7 ?_
  show Goes p.tables e below (T7.setTop (mkF m 43 #[.val (.int pa), .val (.int pb), .val (.int pf), .val (.int pv), .val (.int x1), .val (.ref b2), .unset] [(.int (8 : Int32))])) _
  refine Goes.by (fun _ k => XS.bipush X7.here hx rfl (hb hby at_43) k) ?_
  show Goes p.tables e below (T7.setTop (mkF m 45 #[.val (.int pa), .val (.int pb), .val (.int pf), .val (.int pv), .val (.int x1), .val (.ref b2), .unset] [(.int (8 : Int32)), (.int (8 : Int32))])) _
  refine Goes.by (fun _ k => XS.icmpYes X7.here hx rfl (pc0 := 45) (pc' := 50) rfl (hb hby at_45) rfl (teq (by decide : (8 : Int32) = (8 : Int32))).1 (by decide) (by decide) k) ?_
  show Goes p.tables e below (T7.setTop (mkF m 50 #[.val (.int pa), .val (.int pb), .val (.int pf), .val (.int pv), .val (.int x1), .val (.ref b2), .unset] [])) _
  refine Goes.by (fun _ k => XS.aload X7.here hx rfl (hb hby at_50) rfl rfl k) ?_
  show Goes p.tables e below (T7.setTop (mkF m 52 #[.val (.int pa), .val (.int pb), .val (.int pf), .val (.int pv), .val (.int x1), .val (.ref b2), .unset] [(.ref b2)])) _
  obtain ⟨cq8, kq8, q8a, q8b, q8c⟩ := isOf hZ e7 E_b2
  obtain ⟨_, _, ⟨T8, L8, k8, n8⟩, -, X8, ⟨Lc8, hQ8, l8, y8, z8⟩, st8⟩ := X7.virtualBack hx (y := (⟨"com/example/javelot/javelot/classfile/ByteWriter", "toByteArray", "()[B"⟩ : MethodName)) (z := (⟨"com/example/javelot/javelot/classfile/ByteWriter", "toByteArray", "()[B"⟩ : MethodName)) hown (mvT hZ (hw _ (List.mem_of_getElem? (i := 34) rfl))) (mvT hZ (hw _ (List.mem_of_getElem? (i := 35) rfl))) (notFace_of_selects (args := #[]) (mvT hZ (hw _ (List.mem_of_getElem? (i := 37) rfl)))) (mvT hZ (hw _ (List.mem_of_getElem? (i := 37) rfl))) (mvT hZ (hw _ (List.mem_of_getElem? (i := 36) rfl))) (by decide) (backOf (W := 0) (rm7 l Z a0 hw [] b2 ob_3 (up (up (up (up (up (up (up (up (up (up (fun _ => (0 : Int32)) 0 ((((pa.toUInt32 >>> ((24 : Int32) &&& 31).toUInt32).toInt32).toInt8.toInt32).toInt8.toInt32)) 1 ((((pa.toUInt32 >>> ((16 : Int32) &&& 31).toUInt32).toInt32).toInt8.toInt32).toInt8.toInt32)) 2 ((((pa.toUInt32 >>> ((8 : Int32) &&& 31).toUInt32).toInt32).toInt8.toInt32).toInt8.toInt32)) 3 ((pa.toInt8.toInt32).toInt8.toInt32)) 4 ((((pb.toUInt32 >>> ((24 : Int32) &&& 31).toUInt32).toInt32).toInt8.toInt32).toInt8.toInt32)) 5 ((((pb.toUInt32 >>> ((16 : Int32) &&& 31).toUInt32).toInt32).toInt8.toInt32).toInt8.toInt32)) 6 ((((pb.toUInt32 >>> ((8 : Int32) &&& 31).toUInt32).toInt32).toInt8.toInt32).toInt8.toInt32)) 7 ((pb.toInt8.toInt32).toInt8.toInt32)) (x1.toInt.toNat) ((((pv.toUInt32 >>> ((8 : Int32) &&& 31).toUInt32).toInt32).toInt8.toInt32).toInt8.toInt32)) ((x1.toInt.toNat) + 1) ((pv.toInt8.toInt32).toInt8.toInt32)) T6.heap n0 Zs6 F_b2_bytes F_b2_size A_ob_3) hZ (hw _ (List.mem_of_getElem? (i := 38) rfl)) (hw _ (List.mem_of_getElem? (i := 3) rfl)) (by decide) (by decide)) q8a q8c (g := (mkF m 52 #[.val (.int pa), .val (.int pb), .val (.int pf), .val (.int pv), .val (.int x1), .val (.ref b2), .unset] [(.ref b2)])) rfl (by rw [hml]; rfl) (Steps.refl _) (argsL := []) (rest := []) (lenOf pd_6 rfl) rfl (by show 2 * 0 + _ ≤ _; exact Nat.le_of_eq rfl) (hb hby at_52) (fun _ _ => ⟨rfl, e7, (by decide : 2 + 1 ≤ _), (by decide : 258 + 8 ≤ _)⟩)
  dsimp only [Pt.U, Pt.locs, Pt.cells, Pt.slots] at X8 l8 y8 z8 st8 hQ8
  subst l8 y8 z8
  obtain ⟨oc_8, rfl, N8q, Kq8, po8_0, po8_1⟩ := hQ8
  have N8 := Fr.app N7 N8q
  refine Goes.via st8 ?_
  have Zs8 : n0 ≤ T8.heap.size := Nat.le_trans Zs6 Kq8.1
  have K8 : Keep h0 T8.heap [] := K6.trans Kq8 all0
  have lt8_b2 := E_b2.lt
  have lt8_ob_3 := A_ob_3.lt
  have sz_oc_8 : h0.size ≤ oc_8 := Nat.le_trans K6.1 po8_1
  have g_oc_8 : n0 ≤ oc_8 := Nat.le_trans Zs6 po8_1
  have ne_b2_oc_8 : b2 ≠ oc_8 := Nat.ne_of_lt (Nat.lt_of_lt_of_le lt8_b2 po8_1)
  have ne_ob_3_oc_8 : ob_3 ≠ oc_8 := Nat.ne_of_lt (Nat.lt_of_lt_of_le lt8_ob_3 po8_1)
  have E_b2 : Exa Z T8.heap b2 "com/example/javelot/javelot/classfile/ByteWriter" := E_b2.keep Kq8
  have F_b2_bytes : Fld Z T8.heap b2 "com/example/javelot/javelot/classfile/ByteWriter" "bytes" "[B" (.ref ob_3) := F_b2_bytes.keep Kq8 nin0
  have F_b2_size : Fld Z T8.heap b2 "com/example/javelot/javelot/classfile/ByteWriter" "size" "I" (.int (8 : Int32)) := F_b2_size.keep Kq8 nin0
  have A_ob_3 : AI Z T8.heap ob_3 .byte 256 (up (up (up (up (up (up (up (up (up (up (fun _ => (0 : Int32)) 0 ((((pa.toUInt32 >>> ((24 : Int32) &&& 31).toUInt32).toInt32).toInt8.toInt32).toInt8.toInt32)) 1 ((((pa.toUInt32 >>> ((16 : Int32) &&& 31).toUInt32).toInt32).toInt8.toInt32).toInt8.toInt32)) 2 ((((pa.toUInt32 >>> ((8 : Int32) &&& 31).toUInt32).toInt32).toInt8.toInt32).toInt8.toInt32)) 3 ((pa.toInt8.toInt32).toInt8.toInt32)) 4 ((((pb.toUInt32 >>> ((24 : Int32) &&& 31).toUInt32).toInt32).toInt8.toInt32).toInt8.toInt32)) 5 ((((pb.toUInt32 >>> ((16 : Int32) &&& 31).toUInt32).toInt32).toInt8.toInt32).toInt8.toInt32)) 6 ((((pb.toUInt32 >>> ((8 : Int32) &&& 31).toUInt32).toInt32).toInt8.toInt32).toInt8.toInt32)) 7 ((pb.toInt8.toInt32).toInt8.toInt32)) (x1.toInt.toNat) ((((pv.toUInt32 >>> ((8 : Int32) &&& 31).toUInt32).toInt32).toInt8.toInt32).toInt8.toInt32)) ((x1.toInt.toNat) + 1) ((pv.toInt8.toInt32).toInt8.toInt32)) := A_ob_3.keep Kq8 nin0
  have A_oc_8 : AI Z T8.heap oc_8 .byte 8 (fun j => if j < 8 then (up (up (up (up (up (up (up (up (up (up (fun _ => (0 : Int32)) 0 ((((pa.toUInt32 >>> ((24 : Int32) &&& 31).toUInt32).toInt32).toInt8.toInt32).toInt8.toInt32)) 1 ((((pa.toUInt32 >>> ((16 : Int32) &&& 31).toUInt32).toInt32).toInt8.toInt32).toInt8.toInt32)) 2 ((((pa.toUInt32 >>> ((8 : Int32) &&& 31).toUInt32).toInt32).toInt8.toInt32).toInt8.toInt32)) 3 ((pa.toInt8.toInt32).toInt8.toInt32)) 4 ((((pb.toUInt32 >>> ((24 : Int32) &&& 31).toUInt32).toInt32).toInt8.toInt32).toInt8.toInt32)) 5 ((((pb.toUInt32 >>> ((16 : Int32) &&& 31).toUInt32).toInt32).toInt8.toInt32).toInt8.toInt32)) 6 ((((pb.toUInt32 >>> ((8 : Int32) &&& 31).toUInt32).toInt32).toInt8.toInt32).toInt8.toInt32)) 7 ((pb.toInt8.toInt32).toInt8.toInt32)) (x1.toInt.toNat) ((((pv.toUInt32 >>> ((8 : Int32) &&& 31).toUInt32).toInt32).toInt8.toInt32).toInt8.toInt32)) ((x1.toInt.toNat) + 1) ((pv.toInt8.toInt32).toInt8.toInt32)) j else (fun _ => (0 : Int32)) j) := po8_0
  show Goes p.tables e below (T8.setTop (mkF m 55 #[.val (.int pa), .val (.int pb), .val (.int pf), .val (.int pv), .val (.int x1), .val (.ref b2), .unset] [(.ref oc_8)])) _
  refine Goes.by (fun _ k => XS.astore X8.here hx rfl (hb hby at_55) rfl rfl (l' := #[.val (.int pa), .val (.int pb), .val (.int pf), .val (.int pv), .val (.int x1), .val (.ref b2), .val (.ref oc_8)]) rfl k) ?_
  show Goes p.tables e below (T8.setTop (mkF m 57 #[.val (.int pa), .val (.int pb), .val (.int pf), .val (.int pv), .val (.int x1), .val (.ref b2), .val (.ref oc_8)] [])) _
  refine Goes.by (fun _ k => XS.aload X8.here hx rfl (hb hby at_57) rfl rfl k) ?_
  show Goes p.tables e below (T8.setTop (mkF m 59 #[.val (.int pa), .val (.int pb), .val (.int pf), .val (.int pv), .val (.int x1), .val (.ref b2), .val (.ref oc_8)] [(.ref oc_8)])) _
  refine Goes.by (fun _ k => alen (z := (8 : Int32)) (fr := (mkF m 59 #[.val (.int pa), .val (.int pb), .val (.int pf), .val (.int pv), .val (.int x1), .val (.ref b2), .val (.ref oc_8)] [(.ref oc_8)])) X8 hx hZ rfl A_oc_8 (by decide) rfl rfl (hb hby at_59) k) ?_
  show Goes p.tables e below (T8.setTop (mkF m 60 #[.val (.int pa), .val (.int pb), .val (.int pf), .val (.int pv), .val (.int x1), .val (.ref b2), .val (.ref oc_8)] [(.int (8 : Int32))])) _
  refine Goes.by (fun _ k => XS.bipush X8.here hx rfl (hb hby at_60) k) ?_
  show Goes p.tables e below (T8.setTop (mkF m 62 #[.val (.int pa), .val (.int pb), .val (.int pf), .val (.int pv), .val (.int x1), .val (.ref b2), .val (.ref oc_8)] [(.int (8 : Int32)), (.int (8 : Int32))])) _
  refine Goes.by (fun _ k => XS.icmpYes X8.here hx rfl (pc0 := 62) (pc' := 67) rfl (hb hby at_62) rfl (teq (by decide : (8 : Int32) = (8 : Int32))).1 (by decide) (by decide) k) ?_
  show Goes p.tables e below (T8.setTop (mkF m 67 #[.val (.int pa), .val (.int pb), .val (.int pf), .val (.int pv), .val (.int x1), .val (.ref b2), .val (.ref oc_8)] [])) _
  refine Goes.by (fun _ k => XS.aload X8.here hx rfl (hb hby at_67) rfl rfl k) ?_
  show Goes p.tables e below (T8.setTop (mkF m 69 #[.val (.int pa), .val (.int pb), .val (.int pf), .val (.int pv), .val (.int x1), .val (.ref b2), .val (.ref oc_8)] [(.ref oc_8)])) _
  refine Goes.by (fun _ k => XS.iconst X8.here hx rfl (hb hby at_69) k) ?_
  show Goes p.tables e below (T8.setTop (mkF m 70 #[.val (.int pa), .val (.int pb), .val (.int pf), .val (.int pv), .val (.int x1), .val (.ref b2), .val (.ref oc_8)] [(.int (0 : Int32)), (.ref oc_8)])) _
  refine Goes.by (fun _ k => XS.iloadN X8.here hx rfl (hb hby at_70) rfl k) ?_
  show Goes p.tables e below (T8.setTop (mkF m 71 #[.val (.int pa), .val (.int pb), .val (.int pf), .val (.int pv), .val (.int x1), .val (.ref b2), .val (.ref oc_8)] [(.int pa), (.int (0 : Int32)), (.ref oc_8)])) _
  refine Goes.by (fun _ k => XS.iloadN X8.here hx rfl (hb hby at_71) rfl k) ?_
  show Goes p.tables e below (T8.setTop (mkF m 72 #[.val (.int pa), .val (.int pb), .val (.int pf), .val (.int pv), .val (.int x1), .val (.ref b2), .val (.ref oc_8)] [(.int pb), (.int pa), (.int (0 : Int32)), (.ref oc_8)])) _
  refine Goes.by (fun _ k => XS.iload X8.here hx rfl (hb hby at_72) rfl k) ?_
  show Goes p.tables e below (T8.setTop (mkF m 74 #[.val (.int pa), .val (.int pb), .val (.int pf), .val (.int pv), .val (.int x1), .val (.ref b2), .val (.ref oc_8)] [(.int x1), (.int pb), (.int pa), (.int (0 : Int32)), (.ref oc_8)])) _
  refine Goes.by (fun _ k => XS.iloadN X8.here hx rfl (hb hby at_74) rfl k) ?_
  show Goes p.tables e below (T8.setTop (mkF m 75 #[.val (.int pa), .val (.int pb), .val (.int pf), .val (.int pv), .val (.int x1), .val (.ref b2), .val (.ref oc_8)] [(.int pv), (.int x1), (.int pb), (.int pa), (.int (0 : Int32)), (.ref oc_8)])) _
  obtain ⟨_, _, ⟨T9, L9, k9, n9⟩, -, X9, ⟨Lc9, hQ9, l9, y9, z9⟩, st9⟩ := Jvm.LawKit.callS X8 hx (y := (⟨"com/example/javelot/javelot/classfile/ByteWriterPutU2PinLaw", "ok", "([BIIIII)Z"⟩ : MethodName)) hown (mvT hZ (hw _ (List.mem_of_getElem? (i := 51) rfl))) (mvT hZ (hw _ (List.mem_of_getElem? (i := 52) rfl))) (mvT hZ (hw _ (List.mem_of_getElem? (i := 53) rfl))) (mvT hZ (hw _ (List.mem_of_getElem? (i := 54) rfl))) (by decide) (backOf (W := 0) (rm10 l Z a0 hw [] oc_8 (0 : Int32) pa pb x1 pv (fun j => if j < 8 then (up (up (up (up (up (up (up (up (up (up (fun _ => (0 : Int32)) 0 ((((pa.toUInt32 >>> ((24 : Int32) &&& 31).toUInt32).toInt32).toInt8.toInt32).toInt8.toInt32)) 1 ((((pa.toUInt32 >>> ((16 : Int32) &&& 31).toUInt32).toInt32).toInt8.toInt32).toInt8.toInt32)) 2 ((((pa.toUInt32 >>> ((8 : Int32) &&& 31).toUInt32).toInt32).toInt8.toInt32).toInt8.toInt32)) 3 ((pa.toInt8.toInt32).toInt8.toInt32)) 4 ((((pb.toUInt32 >>> ((24 : Int32) &&& 31).toUInt32).toInt32).toInt8.toInt32).toInt8.toInt32)) 5 ((((pb.toUInt32 >>> ((16 : Int32) &&& 31).toUInt32).toInt32).toInt8.toInt32).toInt8.toInt32)) 6 ((((pb.toUInt32 >>> ((8 : Int32) &&& 31).toUInt32).toInt32).toInt8.toInt32).toInt8.toInt32)) 7 ((pb.toInt8.toInt32).toInt8.toInt32)) (x1.toInt.toNat) ((((pv.toUInt32 >>> ((8 : Int32) &&& 31).toUInt32).toInt32).toInt8.toInt32).toInt8.toInt32)) ((x1.toInt.toNat) + 1) ((pv.toInt8.toInt32).toInt8.toInt32)) j else (fun _ => (0 : Int32)) j) 0 T8.heap n0 Zs8 A_oc_8 (by decide) (by decide)) hZ (hw _ (List.mem_of_getElem? (i := 54) rfl)) (hw _ (List.mem_of_getElem? (i := 53) rfl)) (by decide) (by decide)) (g := (mkF m 75 #[.val (.int pa), .val (.int pb), .val (.int pf), .val (.int pv), .val (.int x1), .val (.ref b2), .val (.ref oc_8)] [(.int pv), (.int x1), (.int pb), (.int pa), (.int (0 : Int32)), (.ref oc_8)])) rfl (by rw [hml]; rfl) (argsL := [(.ref oc_8), (.int (0 : Int32)), (.int pa), (.int pb), (.int x1), (.int pv)]) (rest := []) (lenOf pd_7 rfl) rfl (by show 2 * 0 + _ ≤ _; exact Nat.le_of_eq rfl) (hb hby at_75) (fun _ _ => ⟨rfl, rfl, (by decide : 3 + 0 ≤ _), (by decide : 266 + 0 ≤ _)⟩)
  dsimp only [Pt.U, Pt.locs, Pt.cells, Pt.slots] at X9 l9 y9 z9 st9 hQ9
  subst l9 y9 z9
  obtain ⟨rfl, N9q, e9⟩ := hQ9
  have N9 := Fr.app N8 N9q
  refine Goes.by st9 ?_
  show Goes p.tables e below (T9.setTop (mkF m 78 #[.val (.int pa), .val (.int pb), .val (.int pf), .val (.int pv), .val (.int x1), .val (.ref b2), .val (.ref oc_8)] [(.int (fn10 (0 : Int32) pa pb x1 pv (fun j => if j < 8 then (up (up (up (up (up (up (up (up (up (up (fun _ => (0 : Int32)) 0 ((((pa.toUInt32 >>> ((24 : Int32) &&& 31).toUInt32).toInt32).toInt8.toInt32).toInt8.toInt32)) 1 ((((pa.toUInt32 >>> ((16 : Int32) &&& 31).toUInt32).toInt32).toInt8.toInt32).toInt8.toInt32)) 2 ((((pa.toUInt32 >>> ((8 : Int32) &&& 31).toUInt32).toInt32).toInt8.toInt32).toInt8.toInt32)) 3 ((pa.toInt8.toInt32).toInt8.toInt32)) 4 ((((pb.toUInt32 >>> ((24 : Int32) &&& 31).toUInt32).toInt32).toInt8.toInt32).toInt8.toInt32)) 5 ((((pb.toUInt32 >>> ((16 : Int32) &&& 31).toUInt32).toInt32).toInt8.toInt32).toInt8.toInt32)) 6 ((((pb.toUInt32 >>> ((8 : Int32) &&& 31).toUInt32).toInt32).toInt8.toInt32).toInt8.toInt32)) 7 ((pb.toInt8.toInt32).toInt8.toInt32)) (x1.toInt.toNat) ((((pv.toUInt32 >>> ((8 : Int32) &&& 31).toUInt32).toInt32).toInt8.toInt32).toInt8.toInt32)) ((x1.toInt.toNat) + 1) ((pv.toInt8.toInt32).toInt8.toInt32)) j else (fun _ => (0 : Int32)) j) 0))])) _
  refine Goes.by (fun _ k => XS.ifNo X9.here hx rfl (hb hby at_78) rfl ((if0 _ _).trans (feq (by rw [own_ok0 pa pb pf pv x1 hx1]; decide : ¬ ((fn10 (0 : Int32) pa pb x1 pv (fun j => if j < 8 then (up (up (up (up (up (up (up (up (up (up (fun _ => (0 : Int32)) 0 ((((pa.toUInt32 >>> ((24 : Int32) &&& 31).toUInt32).toInt32).toInt8.toInt32).toInt8.toInt32)) 1 ((((pa.toUInt32 >>> ((16 : Int32) &&& 31).toUInt32).toInt32).toInt8.toInt32).toInt8.toInt32)) 2 ((((pa.toUInt32 >>> ((8 : Int32) &&& 31).toUInt32).toInt32).toInt8.toInt32).toInt8.toInt32)) 3 ((pa.toInt8.toInt32).toInt8.toInt32)) 4 ((((pb.toUInt32 >>> ((24 : Int32) &&& 31).toUInt32).toInt32).toInt8.toInt32).toInt8.toInt32)) 5 ((((pb.toUInt32 >>> ((16 : Int32) &&& 31).toUInt32).toInt32).toInt8.toInt32).toInt8.toInt32)) 6 ((((pb.toUInt32 >>> ((8 : Int32) &&& 31).toUInt32).toInt32).toInt8.toInt32).toInt8.toInt32)) 7 ((pb.toInt8.toInt32).toInt8.toInt32)) (x1.toInt.toNat) ((((pv.toUInt32 >>> ((8 : Int32) &&& 31).toUInt32).toInt32).toInt8.toInt32).toInt8.toInt32)) ((x1.toInt.toNat) + 1) ((pv.toInt8.toInt32).toInt8.toInt32)) j else (fun _ => (0 : Int32)) j) 0) = (0 : Int32)))).1) k) ?_
  show Goes p.tables e below (T9.setTop (mkF m 81 #[.val (.int pa), .val (.int pb), .val (.int pf), .val (.int pv), .val (.int x1), .val (.ref b2), .val (.ref oc_8)] [])) _
  refine Goes.by (fun _ k => XS.aload X9.here hx rfl (hb hby at_81) rfl rfl k) ?_
  show Goes p.tables e below (T9.setTop (mkF m 83 #[.val (.int pa), .val (.int pb), .val (.int pf), .val (.int pv), .val (.int x1), .val (.ref b2), .val (.ref oc_8)] [(.ref oc_8)])) _
  refine Goes.by (fun _ k => XS.iconst X9.here hx rfl (hb hby at_83) k) ?_
  show Goes p.tables e below (T9.setTop (mkF m 84 #[.val (.int pa), .val (.int pb), .val (.int pf), .val (.int pv), .val (.int x1), .val (.ref b2), .val (.ref oc_8)] [(.int (1 : Int32)), (.ref oc_8)])) _
  refine Goes.by (fun _ k => XS.iloadN X9.here hx rfl (hb hby at_84) rfl k) ?_
  show Goes p.tables e below (T9.setTop (mkF m 85 #[.val (.int pa), .val (.int pb), .val (.int pf), .val (.int pv), .val (.int x1), .val (.ref b2), .val (.ref oc_8)] [(.int pa), (.int (1 : Int32)), (.ref oc_8)])) _
  refine Goes.by (fun _ k => XS.iloadN X9.here hx rfl (hb hby at_85) rfl k) ?_
  show Goes p.tables e below (T9.setTop (mkF m 86 #[.val (.int pa), .val (.int pb), .val (.int pf), .val (.int pv), .val (.int x1), .val (.ref b2), .val (.ref oc_8)] [(.int pb), (.int pa), (.int (1 : Int32)), (.ref oc_8)])) _
  refine Goes.by (fun _ k => XS.iload X9.here hx rfl (hb hby at_86) rfl k) ?_
  show Goes p.tables e below (T9.setTop (mkF m 88 #[.val (.int pa), .val (.int pb), .val (.int pf), .val (.int pv), .val (.int x1), .val (.ref b2), .val (.ref oc_8)] [(.int x1), (.int pb), (.int pa), (.int (1 : Int32)), (.ref oc_8)])) _
  refine Goes.by (fun _ k => XS.iloadN X9.here hx rfl (hb hby at_88) rfl k) ?_
  show Goes p.tables e below (T9.setTop (mkF m 89 #[.val (.int pa), .val (.int pb), .val (.int pf), .val (.int pv), .val (.int x1), .val (.ref b2), .val (.ref oc_8)] [(.int pv), (.int x1), (.int pb), (.int pa), (.int (1 : Int32)), (.ref oc_8)])) _
  obtain ⟨_, _, ⟨T10, L10, k10, n10⟩, -, X10, ⟨Lc10, hQ10, l10, y10, z10⟩, st10⟩ := Jvm.LawKit.callS X9 hx (y := (⟨"com/example/javelot/javelot/classfile/ByteWriterPutU2PinLaw", "ok", "([BIIIII)Z"⟩ : MethodName)) hown (mvT hZ (hw _ (List.mem_of_getElem? (i := 51) rfl))) (mvT hZ (hw _ (List.mem_of_getElem? (i := 52) rfl))) (mvT hZ (hw _ (List.mem_of_getElem? (i := 53) rfl))) (mvT hZ (hw _ (List.mem_of_getElem? (i := 54) rfl))) (by decide) (backOf (W := 0) (rm10 l Z a0 hw [] oc_8 (1 : Int32) pa pb x1 pv (fun j => if j < 8 then (up (up (up (up (up (up (up (up (up (up (fun _ => (0 : Int32)) 0 ((((pa.toUInt32 >>> ((24 : Int32) &&& 31).toUInt32).toInt32).toInt8.toInt32).toInt8.toInt32)) 1 ((((pa.toUInt32 >>> ((16 : Int32) &&& 31).toUInt32).toInt32).toInt8.toInt32).toInt8.toInt32)) 2 ((((pa.toUInt32 >>> ((8 : Int32) &&& 31).toUInt32).toInt32).toInt8.toInt32).toInt8.toInt32)) 3 ((pa.toInt8.toInt32).toInt8.toInt32)) 4 ((((pb.toUInt32 >>> ((24 : Int32) &&& 31).toUInt32).toInt32).toInt8.toInt32).toInt8.toInt32)) 5 ((((pb.toUInt32 >>> ((16 : Int32) &&& 31).toUInt32).toInt32).toInt8.toInt32).toInt8.toInt32)) 6 ((((pb.toUInt32 >>> ((8 : Int32) &&& 31).toUInt32).toInt32).toInt8.toInt32).toInt8.toInt32)) 7 ((pb.toInt8.toInt32).toInt8.toInt32)) (x1.toInt.toNat) ((((pv.toUInt32 >>> ((8 : Int32) &&& 31).toUInt32).toInt32).toInt8.toInt32).toInt8.toInt32)) ((x1.toInt.toNat) + 1) ((pv.toInt8.toInt32).toInt8.toInt32)) j else (fun _ => (0 : Int32)) j) 1 T8.heap n0 Zs8 A_oc_8 (by decide) (by decide)) hZ (hw _ (List.mem_of_getElem? (i := 54) rfl)) (hw _ (List.mem_of_getElem? (i := 53) rfl)) (by decide) (by decide)) (g := (mkF m 89 #[.val (.int pa), .val (.int pb), .val (.int pf), .val (.int pv), .val (.int x1), .val (.ref b2), .val (.ref oc_8)] [(.int pv), (.int x1), (.int pb), (.int pa), (.int (1 : Int32)), (.ref oc_8)])) rfl (by rw [hml]; rfl) (argsL := [(.ref oc_8), (.int (1 : Int32)), (.int pa), (.int pb), (.int x1), (.int pv)]) (rest := []) (lenOf pd_7 rfl) rfl (by show 2 * 0 + _ ≤ _; exact Nat.le_of_eq rfl) (hb hby at_89) (fun _ _ => ⟨rfl, e9, (by decide : 3 + 0 ≤ _), (by decide : 266 + 0 ≤ _)⟩)
  dsimp only [Pt.U, Pt.locs, Pt.cells, Pt.slots] at X10 l10 y10 z10 st10 hQ10
  subst l10 y10 z10
  obtain ⟨rfl, N10q, e10⟩ := hQ10
  have N10 := Fr.app N9 N10q
  refine Goes.by st10 ?_
  show Goes p.tables e below (T10.setTop (mkF m 92 #[.val (.int pa), .val (.int pb), .val (.int pf), .val (.int pv), .val (.int x1), .val (.ref b2), .val (.ref oc_8)] [(.int (fn10 (1 : Int32) pa pb x1 pv (fun j => if j < 8 then (up (up (up (up (up (up (up (up (up (up (fun _ => (0 : Int32)) 0 ((((pa.toUInt32 >>> ((24 : Int32) &&& 31).toUInt32).toInt32).toInt8.toInt32).toInt8.toInt32)) 1 ((((pa.toUInt32 >>> ((16 : Int32) &&& 31).toUInt32).toInt32).toInt8.toInt32).toInt8.toInt32)) 2 ((((pa.toUInt32 >>> ((8 : Int32) &&& 31).toUInt32).toInt32).toInt8.toInt32).toInt8.toInt32)) 3 ((pa.toInt8.toInt32).toInt8.toInt32)) 4 ((((pb.toUInt32 >>> ((24 : Int32) &&& 31).toUInt32).toInt32).toInt8.toInt32).toInt8.toInt32)) 5 ((((pb.toUInt32 >>> ((16 : Int32) &&& 31).toUInt32).toInt32).toInt8.toInt32).toInt8.toInt32)) 6 ((((pb.toUInt32 >>> ((8 : Int32) &&& 31).toUInt32).toInt32).toInt8.toInt32).toInt8.toInt32)) 7 ((pb.toInt8.toInt32).toInt8.toInt32)) (x1.toInt.toNat) ((((pv.toUInt32 >>> ((8 : Int32) &&& 31).toUInt32).toInt32).toInt8.toInt32).toInt8.toInt32)) ((x1.toInt.toNat) + 1) ((pv.toInt8.toInt32).toInt8.toInt32)) j else (fun _ => (0 : Int32)) j) 1))])) _
  refine Goes.by (fun _ k => XS.ifNo X10.here hx rfl (hb hby at_92) rfl ((if0 _ _).trans (feq (by rw [own_ok1 pa pb pf pv x1 hx1]; decide : ¬ ((fn10 (1 : Int32) pa pb x1 pv (fun j => if j < 8 then (up (up (up (up (up (up (up (up (up (up (fun _ => (0 : Int32)) 0 ((((pa.toUInt32 >>> ((24 : Int32) &&& 31).toUInt32).toInt32).toInt8.toInt32).toInt8.toInt32)) 1 ((((pa.toUInt32 >>> ((16 : Int32) &&& 31).toUInt32).toInt32).toInt8.toInt32).toInt8.toInt32)) 2 ((((pa.toUInt32 >>> ((8 : Int32) &&& 31).toUInt32).toInt32).toInt8.toInt32).toInt8.toInt32)) 3 ((pa.toInt8.toInt32).toInt8.toInt32)) 4 ((((pb.toUInt32 >>> ((24 : Int32) &&& 31).toUInt32).toInt32).toInt8.toInt32).toInt8.toInt32)) 5 ((((pb.toUInt32 >>> ((16 : Int32) &&& 31).toUInt32).toInt32).toInt8.toInt32).toInt8.toInt32)) 6 ((((pb.toUInt32 >>> ((8 : Int32) &&& 31).toUInt32).toInt32).toInt8.toInt32).toInt8.toInt32)) 7 ((pb.toInt8.toInt32).toInt8.toInt32)) (x1.toInt.toNat) ((((pv.toUInt32 >>> ((8 : Int32) &&& 31).toUInt32).toInt32).toInt8.toInt32).toInt8.toInt32)) ((x1.toInt.toNat) + 1) ((pv.toInt8.toInt32).toInt8.toInt32)) j else (fun _ => (0 : Int32)) j) 1) = (0 : Int32)))).1) k) ?_
  show Goes p.tables e below (T10.setTop (mkF m 95 #[.val (.int pa), .val (.int pb), .val (.int pf), .val (.int pv), .val (.int x1), .val (.ref b2), .val (.ref oc_8)] [])) _
  refine Goes.by (fun _ k => XS.aload X10.here hx rfl (hb hby at_95) rfl rfl k) ?_
  show Goes p.tables e below (T10.setTop (mkF m 97 #[.val (.int pa), .val (.int pb), .val (.int pf), .val (.int pv), .val (.int x1), .val (.ref b2), .val (.ref oc_8)] [(.ref oc_8)])) _
  refine Goes.by (fun _ k => XS.iconst X10.here hx rfl (hb hby at_97) k) ?_
  show Goes p.tables e below (T10.setTop (mkF m 98 #[.val (.int pa), .val (.int pb), .val (.int pf), .val (.int pv), .val (.int x1), .val (.ref b2), .val (.ref oc_8)] [(.int (2 : Int32)), (.ref oc_8)])) _
  refine Goes.by (fun _ k => XS.iloadN X10.here hx rfl (hb hby at_98) rfl k) ?_
  show Goes p.tables e below (T10.setTop (mkF m 99 #[.val (.int pa), .val (.int pb), .val (.int pf), .val (.int pv), .val (.int x1), .val (.ref b2), .val (.ref oc_8)] [(.int pa), (.int (2 : Int32)), (.ref oc_8)])) _
  refine Goes.by (fun _ k => XS.iloadN X10.here hx rfl (hb hby at_99) rfl k) ?_
  show Goes p.tables e below (T10.setTop (mkF m 100 #[.val (.int pa), .val (.int pb), .val (.int pf), .val (.int pv), .val (.int x1), .val (.ref b2), .val (.ref oc_8)] [(.int pb), (.int pa), (.int (2 : Int32)), (.ref oc_8)])) _
  refine Goes.by (fun _ k => XS.iload X10.here hx rfl (hb hby at_100) rfl k) ?_
  show Goes p.tables e below (T10.setTop (mkF m 102 #[.val (.int pa), .val (.int pb), .val (.int pf), .val (.int pv), .val (.int x1), .val (.ref b2), .val (.ref oc_8)] [(.int x1), (.int pb), (.int pa), (.int (2 : Int32)), (.ref oc_8)])) _
  refine Goes.by (fun _ k => XS.iloadN X10.here hx rfl (hb hby at_102) rfl k) ?_
  show Goes p.tables e below (T10.setTop (mkF m 103 #[.val (.int pa), .val (.int pb), .val (.int pf), .val (.int pv), .val (.int x1), .val (.ref b2), .val (.ref oc_8)] [(.int pv), (.int x1), (.int pb), (.int pa), (.int (2 : Int32)), (.ref oc_8)])) _
  obtain ⟨_, _, ⟨T11, L11, k11, n11⟩, -, X11, ⟨Lc11, hQ11, l11, y11, z11⟩, st11⟩ := Jvm.LawKit.callS X10 hx (y := (⟨"com/example/javelot/javelot/classfile/ByteWriterPutU2PinLaw", "ok", "([BIIIII)Z"⟩ : MethodName)) hown (mvT hZ (hw _ (List.mem_of_getElem? (i := 51) rfl))) (mvT hZ (hw _ (List.mem_of_getElem? (i := 52) rfl))) (mvT hZ (hw _ (List.mem_of_getElem? (i := 53) rfl))) (mvT hZ (hw _ (List.mem_of_getElem? (i := 54) rfl))) (by decide) (backOf (W := 0) (rm10 l Z a0 hw [] oc_8 (2 : Int32) pa pb x1 pv (fun j => if j < 8 then (up (up (up (up (up (up (up (up (up (up (fun _ => (0 : Int32)) 0 ((((pa.toUInt32 >>> ((24 : Int32) &&& 31).toUInt32).toInt32).toInt8.toInt32).toInt8.toInt32)) 1 ((((pa.toUInt32 >>> ((16 : Int32) &&& 31).toUInt32).toInt32).toInt8.toInt32).toInt8.toInt32)) 2 ((((pa.toUInt32 >>> ((8 : Int32) &&& 31).toUInt32).toInt32).toInt8.toInt32).toInt8.toInt32)) 3 ((pa.toInt8.toInt32).toInt8.toInt32)) 4 ((((pb.toUInt32 >>> ((24 : Int32) &&& 31).toUInt32).toInt32).toInt8.toInt32).toInt8.toInt32)) 5 ((((pb.toUInt32 >>> ((16 : Int32) &&& 31).toUInt32).toInt32).toInt8.toInt32).toInt8.toInt32)) 6 ((((pb.toUInt32 >>> ((8 : Int32) &&& 31).toUInt32).toInt32).toInt8.toInt32).toInt8.toInt32)) 7 ((pb.toInt8.toInt32).toInt8.toInt32)) (x1.toInt.toNat) ((((pv.toUInt32 >>> ((8 : Int32) &&& 31).toUInt32).toInt32).toInt8.toInt32).toInt8.toInt32)) ((x1.toInt.toNat) + 1) ((pv.toInt8.toInt32).toInt8.toInt32)) j else (fun _ => (0 : Int32)) j) 2 T8.heap n0 Zs8 A_oc_8 (by decide) (by decide)) hZ (hw _ (List.mem_of_getElem? (i := 54) rfl)) (hw _ (List.mem_of_getElem? (i := 53) rfl)) (by decide) (by decide)) (g := (mkF m 103 #[.val (.int pa), .val (.int pb), .val (.int pf), .val (.int pv), .val (.int x1), .val (.ref b2), .val (.ref oc_8)] [(.int pv), (.int x1), (.int pb), (.int pa), (.int (2 : Int32)), (.ref oc_8)])) rfl (by rw [hml]; rfl) (argsL := [(.ref oc_8), (.int (2 : Int32)), (.int pa), (.int pb), (.int x1), (.int pv)]) (rest := []) (lenOf pd_7 rfl) rfl (by show 2 * 0 + _ ≤ _; exact Nat.le_of_eq rfl) (hb hby at_103) (fun _ _ => ⟨rfl, e10, (by decide : 3 + 0 ≤ _), (by decide : 266 + 0 ≤ _)⟩)
  dsimp only [Pt.U, Pt.locs, Pt.cells, Pt.slots] at X11 l11 y11 z11 st11 hQ11
  subst l11 y11 z11
  obtain ⟨rfl, N11q, e11⟩ := hQ11
  have N11 := Fr.app N10 N11q
  refine Goes.by st11 ?_
  show Goes p.tables e below (T11.setTop (mkF m 106 #[.val (.int pa), .val (.int pb), .val (.int pf), .val (.int pv), .val (.int x1), .val (.ref b2), .val (.ref oc_8)] [(.int (fn10 (2 : Int32) pa pb x1 pv (fun j => if j < 8 then (up (up (up (up (up (up (up (up (up (up (fun _ => (0 : Int32)) 0 ((((pa.toUInt32 >>> ((24 : Int32) &&& 31).toUInt32).toInt32).toInt8.toInt32).toInt8.toInt32)) 1 ((((pa.toUInt32 >>> ((16 : Int32) &&& 31).toUInt32).toInt32).toInt8.toInt32).toInt8.toInt32)) 2 ((((pa.toUInt32 >>> ((8 : Int32) &&& 31).toUInt32).toInt32).toInt8.toInt32).toInt8.toInt32)) 3 ((pa.toInt8.toInt32).toInt8.toInt32)) 4 ((((pb.toUInt32 >>> ((24 : Int32) &&& 31).toUInt32).toInt32).toInt8.toInt32).toInt8.toInt32)) 5 ((((pb.toUInt32 >>> ((16 : Int32) &&& 31).toUInt32).toInt32).toInt8.toInt32).toInt8.toInt32)) 6 ((((pb.toUInt32 >>> ((8 : Int32) &&& 31).toUInt32).toInt32).toInt8.toInt32).toInt8.toInt32)) 7 ((pb.toInt8.toInt32).toInt8.toInt32)) (x1.toInt.toNat) ((((pv.toUInt32 >>> ((8 : Int32) &&& 31).toUInt32).toInt32).toInt8.toInt32).toInt8.toInt32)) ((x1.toInt.toNat) + 1) ((pv.toInt8.toInt32).toInt8.toInt32)) j else (fun _ => (0 : Int32)) j) 2))])) _
  refine Goes.by (fun _ k => XS.ifNo X11.here hx rfl (hb hby at_106) rfl ((if0 _ _).trans (feq (by rw [own_ok2 pa pb pf pv x1 hx1]; decide : ¬ ((fn10 (2 : Int32) pa pb x1 pv (fun j => if j < 8 then (up (up (up (up (up (up (up (up (up (up (fun _ => (0 : Int32)) 0 ((((pa.toUInt32 >>> ((24 : Int32) &&& 31).toUInt32).toInt32).toInt8.toInt32).toInt8.toInt32)) 1 ((((pa.toUInt32 >>> ((16 : Int32) &&& 31).toUInt32).toInt32).toInt8.toInt32).toInt8.toInt32)) 2 ((((pa.toUInt32 >>> ((8 : Int32) &&& 31).toUInt32).toInt32).toInt8.toInt32).toInt8.toInt32)) 3 ((pa.toInt8.toInt32).toInt8.toInt32)) 4 ((((pb.toUInt32 >>> ((24 : Int32) &&& 31).toUInt32).toInt32).toInt8.toInt32).toInt8.toInt32)) 5 ((((pb.toUInt32 >>> ((16 : Int32) &&& 31).toUInt32).toInt32).toInt8.toInt32).toInt8.toInt32)) 6 ((((pb.toUInt32 >>> ((8 : Int32) &&& 31).toUInt32).toInt32).toInt8.toInt32).toInt8.toInt32)) 7 ((pb.toInt8.toInt32).toInt8.toInt32)) (x1.toInt.toNat) ((((pv.toUInt32 >>> ((8 : Int32) &&& 31).toUInt32).toInt32).toInt8.toInt32).toInt8.toInt32)) ((x1.toInt.toNat) + 1) ((pv.toInt8.toInt32).toInt8.toInt32)) j else (fun _ => (0 : Int32)) j) 2) = (0 : Int32)))).1) k) ?_
  show Goes p.tables e below (T11.setTop (mkF m 109 #[.val (.int pa), .val (.int pb), .val (.int pf), .val (.int pv), .val (.int x1), .val (.ref b2), .val (.ref oc_8)] [])) _
  refine Goes.by (fun _ k => XS.aload X11.here hx rfl (hb hby at_109) rfl rfl k) ?_
  show Goes p.tables e below (T11.setTop (mkF m 111 #[.val (.int pa), .val (.int pb), .val (.int pf), .val (.int pv), .val (.int x1), .val (.ref b2), .val (.ref oc_8)] [(.ref oc_8)])) _
  refine Goes.by (fun _ k => XS.iconst X11.here hx rfl (hb hby at_111) k) ?_
  show Goes p.tables e below (T11.setTop (mkF m 112 #[.val (.int pa), .val (.int pb), .val (.int pf), .val (.int pv), .val (.int x1), .val (.ref b2), .val (.ref oc_8)] [(.int (3 : Int32)), (.ref oc_8)])) _
  refine Goes.by (fun _ k => XS.iloadN X11.here hx rfl (hb hby at_112) rfl k) ?_
  show Goes p.tables e below (T11.setTop (mkF m 113 #[.val (.int pa), .val (.int pb), .val (.int pf), .val (.int pv), .val (.int x1), .val (.ref b2), .val (.ref oc_8)] [(.int pa), (.int (3 : Int32)), (.ref oc_8)])) _
  refine Goes.by (fun _ k => XS.iloadN X11.here hx rfl (hb hby at_113) rfl k) ?_
  show Goes p.tables e below (T11.setTop (mkF m 114 #[.val (.int pa), .val (.int pb), .val (.int pf), .val (.int pv), .val (.int x1), .val (.ref b2), .val (.ref oc_8)] [(.int pb), (.int pa), (.int (3 : Int32)), (.ref oc_8)])) _
  refine Goes.by (fun _ k => XS.iload X11.here hx rfl (hb hby at_114) rfl k) ?_
  show Goes p.tables e below (T11.setTop (mkF m 116 #[.val (.int pa), .val (.int pb), .val (.int pf), .val (.int pv), .val (.int x1), .val (.ref b2), .val (.ref oc_8)] [(.int x1), (.int pb), (.int pa), (.int (3 : Int32)), (.ref oc_8)])) _
  refine Goes.by (fun _ k => XS.iloadN X11.here hx rfl (hb hby at_116) rfl k) ?_
  show Goes p.tables e below (T11.setTop (mkF m 117 #[.val (.int pa), .val (.int pb), .val (.int pf), .val (.int pv), .val (.int x1), .val (.ref b2), .val (.ref oc_8)] [(.int pv), (.int x1), (.int pb), (.int pa), (.int (3 : Int32)), (.ref oc_8)])) _
  obtain ⟨_, _, ⟨T12, L12, k12, n12⟩, -, X12, ⟨Lc12, hQ12, l12, y12, z12⟩, st12⟩ := Jvm.LawKit.callS X11 hx (y := (⟨"com/example/javelot/javelot/classfile/ByteWriterPutU2PinLaw", "ok", "([BIIIII)Z"⟩ : MethodName)) hown (mvT hZ (hw _ (List.mem_of_getElem? (i := 51) rfl))) (mvT hZ (hw _ (List.mem_of_getElem? (i := 52) rfl))) (mvT hZ (hw _ (List.mem_of_getElem? (i := 53) rfl))) (mvT hZ (hw _ (List.mem_of_getElem? (i := 54) rfl))) (by decide) (backOf (W := 0) (rm10 l Z a0 hw [] oc_8 (3 : Int32) pa pb x1 pv (fun j => if j < 8 then (up (up (up (up (up (up (up (up (up (up (fun _ => (0 : Int32)) 0 ((((pa.toUInt32 >>> ((24 : Int32) &&& 31).toUInt32).toInt32).toInt8.toInt32).toInt8.toInt32)) 1 ((((pa.toUInt32 >>> ((16 : Int32) &&& 31).toUInt32).toInt32).toInt8.toInt32).toInt8.toInt32)) 2 ((((pa.toUInt32 >>> ((8 : Int32) &&& 31).toUInt32).toInt32).toInt8.toInt32).toInt8.toInt32)) 3 ((pa.toInt8.toInt32).toInt8.toInt32)) 4 ((((pb.toUInt32 >>> ((24 : Int32) &&& 31).toUInt32).toInt32).toInt8.toInt32).toInt8.toInt32)) 5 ((((pb.toUInt32 >>> ((16 : Int32) &&& 31).toUInt32).toInt32).toInt8.toInt32).toInt8.toInt32)) 6 ((((pb.toUInt32 >>> ((8 : Int32) &&& 31).toUInt32).toInt32).toInt8.toInt32).toInt8.toInt32)) 7 ((pb.toInt8.toInt32).toInt8.toInt32)) (x1.toInt.toNat) ((((pv.toUInt32 >>> ((8 : Int32) &&& 31).toUInt32).toInt32).toInt8.toInt32).toInt8.toInt32)) ((x1.toInt.toNat) + 1) ((pv.toInt8.toInt32).toInt8.toInt32)) j else (fun _ => (0 : Int32)) j) 3 T8.heap n0 Zs8 A_oc_8 (by decide) (by decide)) hZ (hw _ (List.mem_of_getElem? (i := 54) rfl)) (hw _ (List.mem_of_getElem? (i := 53) rfl)) (by decide) (by decide)) (g := (mkF m 117 #[.val (.int pa), .val (.int pb), .val (.int pf), .val (.int pv), .val (.int x1), .val (.ref b2), .val (.ref oc_8)] [(.int pv), (.int x1), (.int pb), (.int pa), (.int (3 : Int32)), (.ref oc_8)])) rfl (by rw [hml]; rfl) (argsL := [(.ref oc_8), (.int (3 : Int32)), (.int pa), (.int pb), (.int x1), (.int pv)]) (rest := []) (lenOf pd_7 rfl) rfl (by show 2 * 0 + _ ≤ _; exact Nat.le_of_eq rfl) (hb hby at_117) (fun _ _ => ⟨rfl, e11, (by decide : 3 + 0 ≤ _), (by decide : 266 + 0 ≤ _)⟩)
  dsimp only [Pt.U, Pt.locs, Pt.cells, Pt.slots] at X12 l12 y12 z12 st12 hQ12
  subst l12 y12 z12
  obtain ⟨rfl, N12q, e12⟩ := hQ12
  have N12 := Fr.app N11 N12q
  refine Goes.by st12 ?_
  show Goes p.tables e below (T12.setTop (mkF m 120 #[.val (.int pa), .val (.int pb), .val (.int pf), .val (.int pv), .val (.int x1), .val (.ref b2), .val (.ref oc_8)] [(.int (fn10 (3 : Int32) pa pb x1 pv (fun j => if j < 8 then (up (up (up (up (up (up (up (up (up (up (fun _ => (0 : Int32)) 0 ((((pa.toUInt32 >>> ((24 : Int32) &&& 31).toUInt32).toInt32).toInt8.toInt32).toInt8.toInt32)) 1 ((((pa.toUInt32 >>> ((16 : Int32) &&& 31).toUInt32).toInt32).toInt8.toInt32).toInt8.toInt32)) 2 ((((pa.toUInt32 >>> ((8 : Int32) &&& 31).toUInt32).toInt32).toInt8.toInt32).toInt8.toInt32)) 3 ((pa.toInt8.toInt32).toInt8.toInt32)) 4 ((((pb.toUInt32 >>> ((24 : Int32) &&& 31).toUInt32).toInt32).toInt8.toInt32).toInt8.toInt32)) 5 ((((pb.toUInt32 >>> ((16 : Int32) &&& 31).toUInt32).toInt32).toInt8.toInt32).toInt8.toInt32)) 6 ((((pb.toUInt32 >>> ((8 : Int32) &&& 31).toUInt32).toInt32).toInt8.toInt32).toInt8.toInt32)) 7 ((pb.toInt8.toInt32).toInt8.toInt32)) (x1.toInt.toNat) ((((pv.toUInt32 >>> ((8 : Int32) &&& 31).toUInt32).toInt32).toInt8.toInt32).toInt8.toInt32)) ((x1.toInt.toNat) + 1) ((pv.toInt8.toInt32).toInt8.toInt32)) j else (fun _ => (0 : Int32)) j) 3))])) _
  refine Goes.by (fun _ k => XS.ifNo X12.here hx rfl (hb hby at_120) rfl ((if0 _ _).trans (feq (by rw [own_ok3 pa pb pf pv x1 hx1]; decide : ¬ ((fn10 (3 : Int32) pa pb x1 pv (fun j => if j < 8 then (up (up (up (up (up (up (up (up (up (up (fun _ => (0 : Int32)) 0 ((((pa.toUInt32 >>> ((24 : Int32) &&& 31).toUInt32).toInt32).toInt8.toInt32).toInt8.toInt32)) 1 ((((pa.toUInt32 >>> ((16 : Int32) &&& 31).toUInt32).toInt32).toInt8.toInt32).toInt8.toInt32)) 2 ((((pa.toUInt32 >>> ((8 : Int32) &&& 31).toUInt32).toInt32).toInt8.toInt32).toInt8.toInt32)) 3 ((pa.toInt8.toInt32).toInt8.toInt32)) 4 ((((pb.toUInt32 >>> ((24 : Int32) &&& 31).toUInt32).toInt32).toInt8.toInt32).toInt8.toInt32)) 5 ((((pb.toUInt32 >>> ((16 : Int32) &&& 31).toUInt32).toInt32).toInt8.toInt32).toInt8.toInt32)) 6 ((((pb.toUInt32 >>> ((8 : Int32) &&& 31).toUInt32).toInt32).toInt8.toInt32).toInt8.toInt32)) 7 ((pb.toInt8.toInt32).toInt8.toInt32)) (x1.toInt.toNat) ((((pv.toUInt32 >>> ((8 : Int32) &&& 31).toUInt32).toInt32).toInt8.toInt32).toInt8.toInt32)) ((x1.toInt.toNat) + 1) ((pv.toInt8.toInt32).toInt8.toInt32)) j else (fun _ => (0 : Int32)) j) 3) = (0 : Int32)))).1) k) ?_
  show Goes p.tables e below (T12.setTop (mkF m 123 #[.val (.int pa), .val (.int pb), .val (.int pf), .val (.int pv), .val (.int x1), .val (.ref b2), .val (.ref oc_8)] [])) _
  refine Goes.by (fun _ k => XS.aload X12.here hx rfl (hb hby at_123) rfl rfl k) ?_
  show Goes p.tables e below (T12.setTop (mkF m 125 #[.val (.int pa), .val (.int pb), .val (.int pf), .val (.int pv), .val (.int x1), .val (.ref b2), .val (.ref oc_8)] [(.ref oc_8)])) _
  refine Goes.by (fun _ k => XS.iconst X12.here hx rfl (hb hby at_125) k) ?_
  show Goes p.tables e below (T12.setTop (mkF m 126 #[.val (.int pa), .val (.int pb), .val (.int pf), .val (.int pv), .val (.int x1), .val (.ref b2), .val (.ref oc_8)] [(.int (4 : Int32)), (.ref oc_8)])) _
  refine Goes.by (fun _ k => XS.iloadN X12.here hx rfl (hb hby at_126) rfl k) ?_
  show Goes p.tables e below (T12.setTop (mkF m 127 #[.val (.int pa), .val (.int pb), .val (.int pf), .val (.int pv), .val (.int x1), .val (.ref b2), .val (.ref oc_8)] [(.int pa), (.int (4 : Int32)), (.ref oc_8)])) _
  refine Goes.by (fun _ k => XS.iloadN X12.here hx rfl (hb hby at_127) rfl k) ?_
  show Goes p.tables e below (T12.setTop (mkF m 128 #[.val (.int pa), .val (.int pb), .val (.int pf), .val (.int pv), .val (.int x1), .val (.ref b2), .val (.ref oc_8)] [(.int pb), (.int pa), (.int (4 : Int32)), (.ref oc_8)])) _
  refine Goes.by (fun _ k => XS.iload X12.here hx rfl (hb hby at_128) rfl k) ?_
  show Goes p.tables e below (T12.setTop (mkF m 130 #[.val (.int pa), .val (.int pb), .val (.int pf), .val (.int pv), .val (.int x1), .val (.ref b2), .val (.ref oc_8)] [(.int x1), (.int pb), (.int pa), (.int (4 : Int32)), (.ref oc_8)])) _
  refine Goes.by (fun _ k => XS.iloadN X12.here hx rfl (hb hby at_130) rfl k) ?_
  show Goes p.tables e below (T12.setTop (mkF m 131 #[.val (.int pa), .val (.int pb), .val (.int pf), .val (.int pv), .val (.int x1), .val (.ref b2), .val (.ref oc_8)] [(.int pv), (.int x1), (.int pb), (.int pa), (.int (4 : Int32)), (.ref oc_8)])) _
  obtain ⟨_, _, ⟨T13, L13, k13, n13⟩, -, X13, ⟨Lc13, hQ13, l13, y13, z13⟩, st13⟩ := Jvm.LawKit.callS X12 hx (y := (⟨"com/example/javelot/javelot/classfile/ByteWriterPutU2PinLaw", "ok", "([BIIIII)Z"⟩ : MethodName)) hown (mvT hZ (hw _ (List.mem_of_getElem? (i := 51) rfl))) (mvT hZ (hw _ (List.mem_of_getElem? (i := 52) rfl))) (mvT hZ (hw _ (List.mem_of_getElem? (i := 53) rfl))) (mvT hZ (hw _ (List.mem_of_getElem? (i := 54) rfl))) (by decide) (backOf (W := 0) (rm10 l Z a0 hw [] oc_8 (4 : Int32) pa pb x1 pv (fun j => if j < 8 then (up (up (up (up (up (up (up (up (up (up (fun _ => (0 : Int32)) 0 ((((pa.toUInt32 >>> ((24 : Int32) &&& 31).toUInt32).toInt32).toInt8.toInt32).toInt8.toInt32)) 1 ((((pa.toUInt32 >>> ((16 : Int32) &&& 31).toUInt32).toInt32).toInt8.toInt32).toInt8.toInt32)) 2 ((((pa.toUInt32 >>> ((8 : Int32) &&& 31).toUInt32).toInt32).toInt8.toInt32).toInt8.toInt32)) 3 ((pa.toInt8.toInt32).toInt8.toInt32)) 4 ((((pb.toUInt32 >>> ((24 : Int32) &&& 31).toUInt32).toInt32).toInt8.toInt32).toInt8.toInt32)) 5 ((((pb.toUInt32 >>> ((16 : Int32) &&& 31).toUInt32).toInt32).toInt8.toInt32).toInt8.toInt32)) 6 ((((pb.toUInt32 >>> ((8 : Int32) &&& 31).toUInt32).toInt32).toInt8.toInt32).toInt8.toInt32)) 7 ((pb.toInt8.toInt32).toInt8.toInt32)) (x1.toInt.toNat) ((((pv.toUInt32 >>> ((8 : Int32) &&& 31).toUInt32).toInt32).toInt8.toInt32).toInt8.toInt32)) ((x1.toInt.toNat) + 1) ((pv.toInt8.toInt32).toInt8.toInt32)) j else (fun _ => (0 : Int32)) j) 4 T8.heap n0 Zs8 A_oc_8 (by decide) (by decide)) hZ (hw _ (List.mem_of_getElem? (i := 54) rfl)) (hw _ (List.mem_of_getElem? (i := 53) rfl)) (by decide) (by decide)) (g := (mkF m 131 #[.val (.int pa), .val (.int pb), .val (.int pf), .val (.int pv), .val (.int x1), .val (.ref b2), .val (.ref oc_8)] [(.int pv), (.int x1), (.int pb), (.int pa), (.int (4 : Int32)), (.ref oc_8)])) rfl (by rw [hml]; rfl) (argsL := [(.ref oc_8), (.int (4 : Int32)), (.int pa), (.int pb), (.int x1), (.int pv)]) (rest := []) (lenOf pd_7 rfl) rfl (by show 2 * 0 + _ ≤ _; exact Nat.le_of_eq rfl) (hb hby at_131) (fun _ _ => ⟨rfl, e12, (by decide : 3 + 0 ≤ _), (by decide : 266 + 0 ≤ _)⟩)
  dsimp only [Pt.U, Pt.locs, Pt.cells, Pt.slots] at X13 l13 y13 z13 st13 hQ13
  subst l13 y13 z13
  obtain ⟨rfl, N13q, e13⟩ := hQ13
  have N13 := Fr.app N12 N13q
  refine Goes.by st13 ?_
  show Goes p.tables e below (T13.setTop (mkF m 134 #[.val (.int pa), .val (.int pb), .val (.int pf), .val (.int pv), .val (.int x1), .val (.ref b2), .val (.ref oc_8)] [(.int (fn10 (4 : Int32) pa pb x1 pv (fun j => if j < 8 then (up (up (up (up (up (up (up (up (up (up (fun _ => (0 : Int32)) 0 ((((pa.toUInt32 >>> ((24 : Int32) &&& 31).toUInt32).toInt32).toInt8.toInt32).toInt8.toInt32)) 1 ((((pa.toUInt32 >>> ((16 : Int32) &&& 31).toUInt32).toInt32).toInt8.toInt32).toInt8.toInt32)) 2 ((((pa.toUInt32 >>> ((8 : Int32) &&& 31).toUInt32).toInt32).toInt8.toInt32).toInt8.toInt32)) 3 ((pa.toInt8.toInt32).toInt8.toInt32)) 4 ((((pb.toUInt32 >>> ((24 : Int32) &&& 31).toUInt32).toInt32).toInt8.toInt32).toInt8.toInt32)) 5 ((((pb.toUInt32 >>> ((16 : Int32) &&& 31).toUInt32).toInt32).toInt8.toInt32).toInt8.toInt32)) 6 ((((pb.toUInt32 >>> ((8 : Int32) &&& 31).toUInt32).toInt32).toInt8.toInt32).toInt8.toInt32)) 7 ((pb.toInt8.toInt32).toInt8.toInt32)) (x1.toInt.toNat) ((((pv.toUInt32 >>> ((8 : Int32) &&& 31).toUInt32).toInt32).toInt8.toInt32).toInt8.toInt32)) ((x1.toInt.toNat) + 1) ((pv.toInt8.toInt32).toInt8.toInt32)) j else (fun _ => (0 : Int32)) j) 4))])) _
  refine Goes.by (fun _ k => XS.ifNo X13.here hx rfl (hb hby at_134) rfl ((if0 _ _).trans (feq (by rw [own_ok4 pa pb pf pv x1 hx1]; decide : ¬ ((fn10 (4 : Int32) pa pb x1 pv (fun j => if j < 8 then (up (up (up (up (up (up (up (up (up (up (fun _ => (0 : Int32)) 0 ((((pa.toUInt32 >>> ((24 : Int32) &&& 31).toUInt32).toInt32).toInt8.toInt32).toInt8.toInt32)) 1 ((((pa.toUInt32 >>> ((16 : Int32) &&& 31).toUInt32).toInt32).toInt8.toInt32).toInt8.toInt32)) 2 ((((pa.toUInt32 >>> ((8 : Int32) &&& 31).toUInt32).toInt32).toInt8.toInt32).toInt8.toInt32)) 3 ((pa.toInt8.toInt32).toInt8.toInt32)) 4 ((((pb.toUInt32 >>> ((24 : Int32) &&& 31).toUInt32).toInt32).toInt8.toInt32).toInt8.toInt32)) 5 ((((pb.toUInt32 >>> ((16 : Int32) &&& 31).toUInt32).toInt32).toInt8.toInt32).toInt8.toInt32)) 6 ((((pb.toUInt32 >>> ((8 : Int32) &&& 31).toUInt32).toInt32).toInt8.toInt32).toInt8.toInt32)) 7 ((pb.toInt8.toInt32).toInt8.toInt32)) (x1.toInt.toNat) ((((pv.toUInt32 >>> ((8 : Int32) &&& 31).toUInt32).toInt32).toInt8.toInt32).toInt8.toInt32)) ((x1.toInt.toNat) + 1) ((pv.toInt8.toInt32).toInt8.toInt32)) j else (fun _ => (0 : Int32)) j) 4) = (0 : Int32)))).1) k) ?_
  show Goes p.tables e below (T13.setTop (mkF m 137 #[.val (.int pa), .val (.int pb), .val (.int pf), .val (.int pv), .val (.int x1), .val (.ref b2), .val (.ref oc_8)] [])) _
  refine Goes.by (fun _ k => XS.aload X13.here hx rfl (hb hby at_137) rfl rfl k) ?_
  show Goes p.tables e below (T13.setTop (mkF m 139 #[.val (.int pa), .val (.int pb), .val (.int pf), .val (.int pv), .val (.int x1), .val (.ref b2), .val (.ref oc_8)] [(.ref oc_8)])) _
  refine Goes.by (fun _ k => XS.iconst X13.here hx rfl (hb hby at_139) k) ?_
  show Goes p.tables e below (T13.setTop (mkF m 140 #[.val (.int pa), .val (.int pb), .val (.int pf), .val (.int pv), .val (.int x1), .val (.ref b2), .val (.ref oc_8)] [(.int (5 : Int32)), (.ref oc_8)])) _
  refine Goes.by (fun _ k => XS.iloadN X13.here hx rfl (hb hby at_140) rfl k) ?_
  show Goes p.tables e below (T13.setTop (mkF m 141 #[.val (.int pa), .val (.int pb), .val (.int pf), .val (.int pv), .val (.int x1), .val (.ref b2), .val (.ref oc_8)] [(.int pa), (.int (5 : Int32)), (.ref oc_8)])) _
  refine Goes.by (fun _ k => XS.iloadN X13.here hx rfl (hb hby at_141) rfl k) ?_
  show Goes p.tables e below (T13.setTop (mkF m 142 #[.val (.int pa), .val (.int pb), .val (.int pf), .val (.int pv), .val (.int x1), .val (.ref b2), .val (.ref oc_8)] [(.int pb), (.int pa), (.int (5 : Int32)), (.ref oc_8)])) _
  refine Goes.by (fun _ k => XS.iload X13.here hx rfl (hb hby at_142) rfl k) ?_
  show Goes p.tables e below (T13.setTop (mkF m 144 #[.val (.int pa), .val (.int pb), .val (.int pf), .val (.int pv), .val (.int x1), .val (.ref b2), .val (.ref oc_8)] [(.int x1), (.int pb), (.int pa), (.int (5 : Int32)), (.ref oc_8)])) _
  refine Goes.by (fun _ k => XS.iloadN X13.here hx rfl (hb hby at_144) rfl k) ?_
  show Goes p.tables e below (T13.setTop (mkF m 145 #[.val (.int pa), .val (.int pb), .val (.int pf), .val (.int pv), .val (.int x1), .val (.ref b2), .val (.ref oc_8)] [(.int pv), (.int x1), (.int pb), (.int pa), (.int (5 : Int32)), (.ref oc_8)])) _
  obtain ⟨_, _, ⟨T14, L14, k14, n14⟩, -, X14, ⟨Lc14, hQ14, l14, y14, z14⟩, st14⟩ := Jvm.LawKit.callS X13 hx (y := (⟨"com/example/javelot/javelot/classfile/ByteWriterPutU2PinLaw", "ok", "([BIIIII)Z"⟩ : MethodName)) hown (mvT hZ (hw _ (List.mem_of_getElem? (i := 51) rfl))) (mvT hZ (hw _ (List.mem_of_getElem? (i := 52) rfl))) (mvT hZ (hw _ (List.mem_of_getElem? (i := 53) rfl))) (mvT hZ (hw _ (List.mem_of_getElem? (i := 54) rfl))) (by decide) (backOf (W := 0) (rm10 l Z a0 hw [] oc_8 (5 : Int32) pa pb x1 pv (fun j => if j < 8 then (up (up (up (up (up (up (up (up (up (up (fun _ => (0 : Int32)) 0 ((((pa.toUInt32 >>> ((24 : Int32) &&& 31).toUInt32).toInt32).toInt8.toInt32).toInt8.toInt32)) 1 ((((pa.toUInt32 >>> ((16 : Int32) &&& 31).toUInt32).toInt32).toInt8.toInt32).toInt8.toInt32)) 2 ((((pa.toUInt32 >>> ((8 : Int32) &&& 31).toUInt32).toInt32).toInt8.toInt32).toInt8.toInt32)) 3 ((pa.toInt8.toInt32).toInt8.toInt32)) 4 ((((pb.toUInt32 >>> ((24 : Int32) &&& 31).toUInt32).toInt32).toInt8.toInt32).toInt8.toInt32)) 5 ((((pb.toUInt32 >>> ((16 : Int32) &&& 31).toUInt32).toInt32).toInt8.toInt32).toInt8.toInt32)) 6 ((((pb.toUInt32 >>> ((8 : Int32) &&& 31).toUInt32).toInt32).toInt8.toInt32).toInt8.toInt32)) 7 ((pb.toInt8.toInt32).toInt8.toInt32)) (x1.toInt.toNat) ((((pv.toUInt32 >>> ((8 : Int32) &&& 31).toUInt32).toInt32).toInt8.toInt32).toInt8.toInt32)) ((x1.toInt.toNat) + 1) ((pv.toInt8.toInt32).toInt8.toInt32)) j else (fun _ => (0 : Int32)) j) 5 T8.heap n0 Zs8 A_oc_8 (by decide) (by decide)) hZ (hw _ (List.mem_of_getElem? (i := 54) rfl)) (hw _ (List.mem_of_getElem? (i := 53) rfl)) (by decide) (by decide)) (g := (mkF m 145 #[.val (.int pa), .val (.int pb), .val (.int pf), .val (.int pv), .val (.int x1), .val (.ref b2), .val (.ref oc_8)] [(.int pv), (.int x1), (.int pb), (.int pa), (.int (5 : Int32)), (.ref oc_8)])) rfl (by rw [hml]; rfl) (argsL := [(.ref oc_8), (.int (5 : Int32)), (.int pa), (.int pb), (.int x1), (.int pv)]) (rest := []) (lenOf pd_7 rfl) rfl (by show 2 * 0 + _ ≤ _; exact Nat.le_of_eq rfl) (hb hby at_145) (fun _ _ => ⟨rfl, e13, (by decide : 3 + 0 ≤ _), (by decide : 266 + 0 ≤ _)⟩)
  dsimp only [Pt.U, Pt.locs, Pt.cells, Pt.slots] at X14 l14 y14 z14 st14 hQ14
  subst l14 y14 z14
  obtain ⟨rfl, N14q, e14⟩ := hQ14
  have N14 := Fr.app N13 N14q
  refine Goes.by st14 ?_
  show Goes p.tables e below (T14.setTop (mkF m 148 #[.val (.int pa), .val (.int pb), .val (.int pf), .val (.int pv), .val (.int x1), .val (.ref b2), .val (.ref oc_8)] [(.int (fn10 (5 : Int32) pa pb x1 pv (fun j => if j < 8 then (up (up (up (up (up (up (up (up (up (up (fun _ => (0 : Int32)) 0 ((((pa.toUInt32 >>> ((24 : Int32) &&& 31).toUInt32).toInt32).toInt8.toInt32).toInt8.toInt32)) 1 ((((pa.toUInt32 >>> ((16 : Int32) &&& 31).toUInt32).toInt32).toInt8.toInt32).toInt8.toInt32)) 2 ((((pa.toUInt32 >>> ((8 : Int32) &&& 31).toUInt32).toInt32).toInt8.toInt32).toInt8.toInt32)) 3 ((pa.toInt8.toInt32).toInt8.toInt32)) 4 ((((pb.toUInt32 >>> ((24 : Int32) &&& 31).toUInt32).toInt32).toInt8.toInt32).toInt8.toInt32)) 5 ((((pb.toUInt32 >>> ((16 : Int32) &&& 31).toUInt32).toInt32).toInt8.toInt32).toInt8.toInt32)) 6 ((((pb.toUInt32 >>> ((8 : Int32) &&& 31).toUInt32).toInt32).toInt8.toInt32).toInt8.toInt32)) 7 ((pb.toInt8.toInt32).toInt8.toInt32)) (x1.toInt.toNat) ((((pv.toUInt32 >>> ((8 : Int32) &&& 31).toUInt32).toInt32).toInt8.toInt32).toInt8.toInt32)) ((x1.toInt.toNat) + 1) ((pv.toInt8.toInt32).toInt8.toInt32)) j else (fun _ => (0 : Int32)) j) 5))])) _
  refine Goes.by (fun _ k => XS.ifNo X14.here hx rfl (hb hby at_148) rfl ((if0 _ _).trans (feq (by rw [own_ok5 pa pb pf pv x1 hx1]; decide : ¬ ((fn10 (5 : Int32) pa pb x1 pv (fun j => if j < 8 then (up (up (up (up (up (up (up (up (up (up (fun _ => (0 : Int32)) 0 ((((pa.toUInt32 >>> ((24 : Int32) &&& 31).toUInt32).toInt32).toInt8.toInt32).toInt8.toInt32)) 1 ((((pa.toUInt32 >>> ((16 : Int32) &&& 31).toUInt32).toInt32).toInt8.toInt32).toInt8.toInt32)) 2 ((((pa.toUInt32 >>> ((8 : Int32) &&& 31).toUInt32).toInt32).toInt8.toInt32).toInt8.toInt32)) 3 ((pa.toInt8.toInt32).toInt8.toInt32)) 4 ((((pb.toUInt32 >>> ((24 : Int32) &&& 31).toUInt32).toInt32).toInt8.toInt32).toInt8.toInt32)) 5 ((((pb.toUInt32 >>> ((16 : Int32) &&& 31).toUInt32).toInt32).toInt8.toInt32).toInt8.toInt32)) 6 ((((pb.toUInt32 >>> ((8 : Int32) &&& 31).toUInt32).toInt32).toInt8.toInt32).toInt8.toInt32)) 7 ((pb.toInt8.toInt32).toInt8.toInt32)) (x1.toInt.toNat) ((((pv.toUInt32 >>> ((8 : Int32) &&& 31).toUInt32).toInt32).toInt8.toInt32).toInt8.toInt32)) ((x1.toInt.toNat) + 1) ((pv.toInt8.toInt32).toInt8.toInt32)) j else (fun _ => (0 : Int32)) j) 5) = (0 : Int32)))).1) k) ?_
  show Goes p.tables e below (T14.setTop (mkF m 151 #[.val (.int pa), .val (.int pb), .val (.int pf), .val (.int pv), .val (.int x1), .val (.ref b2), .val (.ref oc_8)] [])) _
  refine Goes.by (fun _ k => XS.aload X14.here hx rfl (hb hby at_151) rfl rfl k) ?_
  show Goes p.tables e below (T14.setTop (mkF m 153 #[.val (.int pa), .val (.int pb), .val (.int pf), .val (.int pv), .val (.int x1), .val (.ref b2), .val (.ref oc_8)] [(.ref oc_8)])) _
  refine Goes.by (fun _ k => XS.bipush X14.here hx rfl (hb hby at_153) k) ?_
  show Goes p.tables e below (T14.setTop (mkF m 155 #[.val (.int pa), .val (.int pb), .val (.int pf), .val (.int pv), .val (.int x1), .val (.ref b2), .val (.ref oc_8)] [(.int (6 : Int32)), (.ref oc_8)])) _
  refine Goes.by (fun _ k => XS.iloadN X14.here hx rfl (hb hby at_155) rfl k) ?_
  show Goes p.tables e below (T14.setTop (mkF m 156 #[.val (.int pa), .val (.int pb), .val (.int pf), .val (.int pv), .val (.int x1), .val (.ref b2), .val (.ref oc_8)] [(.int pa), (.int (6 : Int32)), (.ref oc_8)])) _
  refine Goes.by (fun _ k => XS.iloadN X14.here hx rfl (hb hby at_156) rfl k) ?_
  show Goes p.tables e below (T14.setTop (mkF m 157 #[.val (.int pa), .val (.int pb), .val (.int pf), .val (.int pv), .val (.int x1), .val (.ref b2), .val (.ref oc_8)] [(.int pb), (.int pa), (.int (6 : Int32)), (.ref oc_8)])) _
  refine Goes.by (fun _ k => XS.iload X14.here hx rfl (hb hby at_157) rfl k) ?_
  show Goes p.tables e below (T14.setTop (mkF m 159 #[.val (.int pa), .val (.int pb), .val (.int pf), .val (.int pv), .val (.int x1), .val (.ref b2), .val (.ref oc_8)] [(.int x1), (.int pb), (.int pa), (.int (6 : Int32)), (.ref oc_8)])) _
  refine Goes.by (fun _ k => XS.iloadN X14.here hx rfl (hb hby at_159) rfl k) ?_
  show Goes p.tables e below (T14.setTop (mkF m 160 #[.val (.int pa), .val (.int pb), .val (.int pf), .val (.int pv), .val (.int x1), .val (.ref b2), .val (.ref oc_8)] [(.int pv), (.int x1), (.int pb), (.int pa), (.int (6 : Int32)), (.ref oc_8)])) _
  obtain ⟨_, _, ⟨T15, L15, k15, n15⟩, -, X15, ⟨Lc15, hQ15, l15, y15, z15⟩, st15⟩ := Jvm.LawKit.callS X14 hx (y := (⟨"com/example/javelot/javelot/classfile/ByteWriterPutU2PinLaw", "ok", "([BIIIII)Z"⟩ : MethodName)) hown (mvT hZ (hw _ (List.mem_of_getElem? (i := 51) rfl))) (mvT hZ (hw _ (List.mem_of_getElem? (i := 52) rfl))) (mvT hZ (hw _ (List.mem_of_getElem? (i := 53) rfl))) (mvT hZ (hw _ (List.mem_of_getElem? (i := 54) rfl))) (by decide) (backOf (W := 0) (rm10 l Z a0 hw [] oc_8 (6 : Int32) pa pb x1 pv (fun j => if j < 8 then (up (up (up (up (up (up (up (up (up (up (fun _ => (0 : Int32)) 0 ((((pa.toUInt32 >>> ((24 : Int32) &&& 31).toUInt32).toInt32).toInt8.toInt32).toInt8.toInt32)) 1 ((((pa.toUInt32 >>> ((16 : Int32) &&& 31).toUInt32).toInt32).toInt8.toInt32).toInt8.toInt32)) 2 ((((pa.toUInt32 >>> ((8 : Int32) &&& 31).toUInt32).toInt32).toInt8.toInt32).toInt8.toInt32)) 3 ((pa.toInt8.toInt32).toInt8.toInt32)) 4 ((((pb.toUInt32 >>> ((24 : Int32) &&& 31).toUInt32).toInt32).toInt8.toInt32).toInt8.toInt32)) 5 ((((pb.toUInt32 >>> ((16 : Int32) &&& 31).toUInt32).toInt32).toInt8.toInt32).toInt8.toInt32)) 6 ((((pb.toUInt32 >>> ((8 : Int32) &&& 31).toUInt32).toInt32).toInt8.toInt32).toInt8.toInt32)) 7 ((pb.toInt8.toInt32).toInt8.toInt32)) (x1.toInt.toNat) ((((pv.toUInt32 >>> ((8 : Int32) &&& 31).toUInt32).toInt32).toInt8.toInt32).toInt8.toInt32)) ((x1.toInt.toNat) + 1) ((pv.toInt8.toInt32).toInt8.toInt32)) j else (fun _ => (0 : Int32)) j) 6 T8.heap n0 Zs8 A_oc_8 (by decide) (by decide)) hZ (hw _ (List.mem_of_getElem? (i := 54) rfl)) (hw _ (List.mem_of_getElem? (i := 53) rfl)) (by decide) (by decide)) (g := (mkF m 160 #[.val (.int pa), .val (.int pb), .val (.int pf), .val (.int pv), .val (.int x1), .val (.ref b2), .val (.ref oc_8)] [(.int pv), (.int x1), (.int pb), (.int pa), (.int (6 : Int32)), (.ref oc_8)])) rfl (by rw [hml]; rfl) (argsL := [(.ref oc_8), (.int (6 : Int32)), (.int pa), (.int pb), (.int x1), (.int pv)]) (rest := []) (lenOf pd_7 rfl) rfl (by show 2 * 0 + _ ≤ _; exact Nat.le_of_eq rfl) (hb hby at_160) (fun _ _ => ⟨rfl, e14, (by decide : 3 + 0 ≤ _), (by decide : 266 + 0 ≤ _)⟩)
  dsimp only [Pt.U, Pt.locs, Pt.cells, Pt.slots] at X15 l15 y15 z15 st15 hQ15
  subst l15 y15 z15
  obtain ⟨rfl, N15q, e15⟩ := hQ15
  have N15 := Fr.app N14 N15q
  refine Goes.by st15 ?_
  show Goes p.tables e below (T15.setTop (mkF m 163 #[.val (.int pa), .val (.int pb), .val (.int pf), .val (.int pv), .val (.int x1), .val (.ref b2), .val (.ref oc_8)] [(.int (fn10 (6 : Int32) pa pb x1 pv (fun j => if j < 8 then (up (up (up (up (up (up (up (up (up (up (fun _ => (0 : Int32)) 0 ((((pa.toUInt32 >>> ((24 : Int32) &&& 31).toUInt32).toInt32).toInt8.toInt32).toInt8.toInt32)) 1 ((((pa.toUInt32 >>> ((16 : Int32) &&& 31).toUInt32).toInt32).toInt8.toInt32).toInt8.toInt32)) 2 ((((pa.toUInt32 >>> ((8 : Int32) &&& 31).toUInt32).toInt32).toInt8.toInt32).toInt8.toInt32)) 3 ((pa.toInt8.toInt32).toInt8.toInt32)) 4 ((((pb.toUInt32 >>> ((24 : Int32) &&& 31).toUInt32).toInt32).toInt8.toInt32).toInt8.toInt32)) 5 ((((pb.toUInt32 >>> ((16 : Int32) &&& 31).toUInt32).toInt32).toInt8.toInt32).toInt8.toInt32)) 6 ((((pb.toUInt32 >>> ((8 : Int32) &&& 31).toUInt32).toInt32).toInt8.toInt32).toInt8.toInt32)) 7 ((pb.toInt8.toInt32).toInt8.toInt32)) (x1.toInt.toNat) ((((pv.toUInt32 >>> ((8 : Int32) &&& 31).toUInt32).toInt32).toInt8.toInt32).toInt8.toInt32)) ((x1.toInt.toNat) + 1) ((pv.toInt8.toInt32).toInt8.toInt32)) j else (fun _ => (0 : Int32)) j) 6))])) _
  refine Goes.by (fun _ k => XS.ifNo X15.here hx rfl (hb hby at_163) rfl ((if0 _ _).trans (feq (by rw [own_ok6 pa pb pf pv x1 hx1]; decide : ¬ ((fn10 (6 : Int32) pa pb x1 pv (fun j => if j < 8 then (up (up (up (up (up (up (up (up (up (up (fun _ => (0 : Int32)) 0 ((((pa.toUInt32 >>> ((24 : Int32) &&& 31).toUInt32).toInt32).toInt8.toInt32).toInt8.toInt32)) 1 ((((pa.toUInt32 >>> ((16 : Int32) &&& 31).toUInt32).toInt32).toInt8.toInt32).toInt8.toInt32)) 2 ((((pa.toUInt32 >>> ((8 : Int32) &&& 31).toUInt32).toInt32).toInt8.toInt32).toInt8.toInt32)) 3 ((pa.toInt8.toInt32).toInt8.toInt32)) 4 ((((pb.toUInt32 >>> ((24 : Int32) &&& 31).toUInt32).toInt32).toInt8.toInt32).toInt8.toInt32)) 5 ((((pb.toUInt32 >>> ((16 : Int32) &&& 31).toUInt32).toInt32).toInt8.toInt32).toInt8.toInt32)) 6 ((((pb.toUInt32 >>> ((8 : Int32) &&& 31).toUInt32).toInt32).toInt8.toInt32).toInt8.toInt32)) 7 ((pb.toInt8.toInt32).toInt8.toInt32)) (x1.toInt.toNat) ((((pv.toUInt32 >>> ((8 : Int32) &&& 31).toUInt32).toInt32).toInt8.toInt32).toInt8.toInt32)) ((x1.toInt.toNat) + 1) ((pv.toInt8.toInt32).toInt8.toInt32)) j else (fun _ => (0 : Int32)) j) 6) = (0 : Int32)))).1) k) ?_
  show Goes p.tables e below (T15.setTop (mkF m 166 #[.val (.int pa), .val (.int pb), .val (.int pf), .val (.int pv), .val (.int x1), .val (.ref b2), .val (.ref oc_8)] [])) _
  refine Goes.by (fun _ k => XS.aload X15.here hx rfl (hb hby at_166) rfl rfl k) ?_
  show Goes p.tables e below (T15.setTop (mkF m 168 #[.val (.int pa), .val (.int pb), .val (.int pf), .val (.int pv), .val (.int x1), .val (.ref b2), .val (.ref oc_8)] [(.ref oc_8)])) _
  refine Goes.by (fun _ k => XS.bipush X15.here hx rfl (hb hby at_168) k) ?_
  show Goes p.tables e below (T15.setTop (mkF m 170 #[.val (.int pa), .val (.int pb), .val (.int pf), .val (.int pv), .val (.int x1), .val (.ref b2), .val (.ref oc_8)] [(.int (7 : Int32)), (.ref oc_8)])) _
  refine Goes.by (fun _ k => XS.iloadN X15.here hx rfl (hb hby at_170) rfl k) ?_
  show Goes p.tables e below (T15.setTop (mkF m 171 #[.val (.int pa), .val (.int pb), .val (.int pf), .val (.int pv), .val (.int x1), .val (.ref b2), .val (.ref oc_8)] [(.int pa), (.int (7 : Int32)), (.ref oc_8)])) _
  refine Goes.by (fun _ k => XS.iloadN X15.here hx rfl (hb hby at_171) rfl k) ?_
  show Goes p.tables e below (T15.setTop (mkF m 172 #[.val (.int pa), .val (.int pb), .val (.int pf), .val (.int pv), .val (.int x1), .val (.ref b2), .val (.ref oc_8)] [(.int pb), (.int pa), (.int (7 : Int32)), (.ref oc_8)])) _
  refine Goes.by (fun _ k => XS.iload X15.here hx rfl (hb hby at_172) rfl k) ?_
  show Goes p.tables e below (T15.setTop (mkF m 174 #[.val (.int pa), .val (.int pb), .val (.int pf), .val (.int pv), .val (.int x1), .val (.ref b2), .val (.ref oc_8)] [(.int x1), (.int pb), (.int pa), (.int (7 : Int32)), (.ref oc_8)])) _
  refine Goes.by (fun _ k => XS.iloadN X15.here hx rfl (hb hby at_174) rfl k) ?_
  show Goes p.tables e below (T15.setTop (mkF m 175 #[.val (.int pa), .val (.int pb), .val (.int pf), .val (.int pv), .val (.int x1), .val (.ref b2), .val (.ref oc_8)] [(.int pv), (.int x1), (.int pb), (.int pa), (.int (7 : Int32)), (.ref oc_8)])) _
  obtain ⟨_, _, ⟨T16, L16, k16, n16⟩, -, X16, ⟨Lc16, hQ16, l16, y16, z16⟩, st16⟩ := Jvm.LawKit.callS X15 hx (y := (⟨"com/example/javelot/javelot/classfile/ByteWriterPutU2PinLaw", "ok", "([BIIIII)Z"⟩ : MethodName)) hown (mvT hZ (hw _ (List.mem_of_getElem? (i := 51) rfl))) (mvT hZ (hw _ (List.mem_of_getElem? (i := 52) rfl))) (mvT hZ (hw _ (List.mem_of_getElem? (i := 53) rfl))) (mvT hZ (hw _ (List.mem_of_getElem? (i := 54) rfl))) (by decide) (backOf (W := 0) (rm10 l Z a0 hw [] oc_8 (7 : Int32) pa pb x1 pv (fun j => if j < 8 then (up (up (up (up (up (up (up (up (up (up (fun _ => (0 : Int32)) 0 ((((pa.toUInt32 >>> ((24 : Int32) &&& 31).toUInt32).toInt32).toInt8.toInt32).toInt8.toInt32)) 1 ((((pa.toUInt32 >>> ((16 : Int32) &&& 31).toUInt32).toInt32).toInt8.toInt32).toInt8.toInt32)) 2 ((((pa.toUInt32 >>> ((8 : Int32) &&& 31).toUInt32).toInt32).toInt8.toInt32).toInt8.toInt32)) 3 ((pa.toInt8.toInt32).toInt8.toInt32)) 4 ((((pb.toUInt32 >>> ((24 : Int32) &&& 31).toUInt32).toInt32).toInt8.toInt32).toInt8.toInt32)) 5 ((((pb.toUInt32 >>> ((16 : Int32) &&& 31).toUInt32).toInt32).toInt8.toInt32).toInt8.toInt32)) 6 ((((pb.toUInt32 >>> ((8 : Int32) &&& 31).toUInt32).toInt32).toInt8.toInt32).toInt8.toInt32)) 7 ((pb.toInt8.toInt32).toInt8.toInt32)) (x1.toInt.toNat) ((((pv.toUInt32 >>> ((8 : Int32) &&& 31).toUInt32).toInt32).toInt8.toInt32).toInt8.toInt32)) ((x1.toInt.toNat) + 1) ((pv.toInt8.toInt32).toInt8.toInt32)) j else (fun _ => (0 : Int32)) j) 7 T8.heap n0 Zs8 A_oc_8 (by decide) (by decide)) hZ (hw _ (List.mem_of_getElem? (i := 54) rfl)) (hw _ (List.mem_of_getElem? (i := 53) rfl)) (by decide) (by decide)) (g := (mkF m 175 #[.val (.int pa), .val (.int pb), .val (.int pf), .val (.int pv), .val (.int x1), .val (.ref b2), .val (.ref oc_8)] [(.int pv), (.int x1), (.int pb), (.int pa), (.int (7 : Int32)), (.ref oc_8)])) rfl (by rw [hml]; rfl) (argsL := [(.ref oc_8), (.int (7 : Int32)), (.int pa), (.int pb), (.int x1), (.int pv)]) (rest := []) (lenOf pd_7 rfl) rfl (by show 2 * 0 + _ ≤ _; exact Nat.le_of_eq rfl) (hb hby at_175) (fun _ _ => ⟨rfl, e15, (by decide : 3 + 0 ≤ _), (by decide : 266 + 0 ≤ _)⟩)
  dsimp only [Pt.U, Pt.locs, Pt.cells, Pt.slots] at X16 l16 y16 z16 st16 hQ16
  subst l16 y16 z16
  obtain ⟨rfl, N16q, e16⟩ := hQ16
  have N16 := Fr.app N15 N16q
  refine Goes.by st16 ?_
  show Goes p.tables e below (T16.setTop (mkF m 178 #[.val (.int pa), .val (.int pb), .val (.int pf), .val (.int pv), .val (.int x1), .val (.ref b2), .val (.ref oc_8)] [(.int (fn10 (7 : Int32) pa pb x1 pv (fun j => if j < 8 then (up (up (up (up (up (up (up (up (up (up (fun _ => (0 : Int32)) 0 ((((pa.toUInt32 >>> ((24 : Int32) &&& 31).toUInt32).toInt32).toInt8.toInt32).toInt8.toInt32)) 1 ((((pa.toUInt32 >>> ((16 : Int32) &&& 31).toUInt32).toInt32).toInt8.toInt32).toInt8.toInt32)) 2 ((((pa.toUInt32 >>> ((8 : Int32) &&& 31).toUInt32).toInt32).toInt8.toInt32).toInt8.toInt32)) 3 ((pa.toInt8.toInt32).toInt8.toInt32)) 4 ((((pb.toUInt32 >>> ((24 : Int32) &&& 31).toUInt32).toInt32).toInt8.toInt32).toInt8.toInt32)) 5 ((((pb.toUInt32 >>> ((16 : Int32) &&& 31).toUInt32).toInt32).toInt8.toInt32).toInt8.toInt32)) 6 ((((pb.toUInt32 >>> ((8 : Int32) &&& 31).toUInt32).toInt32).toInt8.toInt32).toInt8.toInt32)) 7 ((pb.toInt8.toInt32).toInt8.toInt32)) (x1.toInt.toNat) ((((pv.toUInt32 >>> ((8 : Int32) &&& 31).toUInt32).toInt32).toInt8.toInt32).toInt8.toInt32)) ((x1.toInt.toNat) + 1) ((pv.toInt8.toInt32).toInt8.toInt32)) j else (fun _ => (0 : Int32)) j) 7))])) _
  refine Goes.by (fun _ k => XS.ifNo X16.here hx rfl (hb hby at_178) rfl ((if0 _ _).trans (feq (by rw [own_ok7 pa pb pf pv x1 hx1]; decide : ¬ ((fn10 (7 : Int32) pa pb x1 pv (fun j => if j < 8 then (up (up (up (up (up (up (up (up (up (up (fun _ => (0 : Int32)) 0 ((((pa.toUInt32 >>> ((24 : Int32) &&& 31).toUInt32).toInt32).toInt8.toInt32).toInt8.toInt32)) 1 ((((pa.toUInt32 >>> ((16 : Int32) &&& 31).toUInt32).toInt32).toInt8.toInt32).toInt8.toInt32)) 2 ((((pa.toUInt32 >>> ((8 : Int32) &&& 31).toUInt32).toInt32).toInt8.toInt32).toInt8.toInt32)) 3 ((pa.toInt8.toInt32).toInt8.toInt32)) 4 ((((pb.toUInt32 >>> ((24 : Int32) &&& 31).toUInt32).toInt32).toInt8.toInt32).toInt8.toInt32)) 5 ((((pb.toUInt32 >>> ((16 : Int32) &&& 31).toUInt32).toInt32).toInt8.toInt32).toInt8.toInt32)) 6 ((((pb.toUInt32 >>> ((8 : Int32) &&& 31).toUInt32).toInt32).toInt8.toInt32).toInt8.toInt32)) 7 ((pb.toInt8.toInt32).toInt8.toInt32)) (x1.toInt.toNat) ((((pv.toUInt32 >>> ((8 : Int32) &&& 31).toUInt32).toInt32).toInt8.toInt32).toInt8.toInt32)) ((x1.toInt.toNat) + 1) ((pv.toInt8.toInt32).toInt8.toInt32)) j else (fun _ => (0 : Int32)) j) 7) = (0 : Int32)))).1) k) ?_
  show Goes p.tables e below (T16.setTop (mkF m 181 #[.val (.int pa), .val (.int pb), .val (.int pf), .val (.int pv), .val (.int x1), .val (.ref b2), .val (.ref oc_8)] [])) _
  refine Goes.by (fun _ k => XS.iconst X16.here hx rfl (hb hby at_181) k) ?_
  show Goes p.tables e below (T16.setTop (mkF m 182 #[.val (.int pa), .val (.int pb), .val (.int pf), .val (.int pv), .val (.int x1), .val (.ref b2), .val (.ref oc_8)] [(.int (1 : Int32))])) _
  refine Goes.by (fun _ k => XS.goto X16.here hx rfl (pc0 := 182) (pc' := 186) rfl (hb hby at_182) (by decide) (by decide) k) ?_
  show Goes p.tables e below (T16.setTop (mkF m 186 #[.val (.int pa), .val (.int pb), .val (.int pf), .val (.int pv), .val (.int x1), .val (.ref b2), .val (.ref oc_8)] [(.int (1 : Int32))])) _
  obtain ⟨fs, hr, hrun, hended, hW, hsame⟩ := X16.leave (v := some (.int (1 : Int32))) (fun h => by rw [Bd.returns] at h; cases h)
  refine ⟨_, _, retN X16 hx (t := .boolean) Bd.returns (by simp) (hb hby at_186) hr, hrun, hended, _, _, rfl, ?_, ⟨_, rfl⟩, hW, hsame.mono (by decide) (by decide)⟩
  show Q0 Z pa pb pf pv h0 n0 _ T16.heap _
  rw [e16]
  exact ⟨rfl, N16⟩
set_option maxRecDepth 65536 in
set_option maxHeartbeats 40000000 in
theorem comes_1 {Post : Tables → Env → Array Value → State → Outcome → State → Prop} (hpost : ∀ tb e args s v u, (limb_1_1.after args s (.returned v) u = true ∧ limb_1_2.after args s (.returned v) u = true ∧ True) → FrameEnd s (.returned v) u (Jvm.fieldLocs frame_1_writes args s ++ Jvm.arrayLocs frame_1_arrays args s ++ Jvm.staticLocs frame_1_statics s) 16 640 → Post tb e args s (.returned v) u) :
    ArmFor flags0 classFile x code maxLocals ret World_1 tables_1 room_1 Calls_1 rest_1 Pre_1 Post := by
  intro l hfl _ _ p e ha hc hk s m args below hf hA hF happ hP
  obtain ⟨hcalls, hrest, hpre⟩ := hP
  obtain ⟨-, -, -, hnamed, -, -, -, hat⟩ := (Spec.applies_iff hf).mp happ
  obtain ⟨hg, hn⟩ := and_e (Cond.before_iff.mp (show (Jvm.Cond.and given_1 narrow_1).before args s = true from hpre))
  obtain ⟨g1, g2⟩ := and_e hg
  obtain ⟨g3, g4⟩ := and_e g2
  obtain ⟨g5, g6⟩ := and_e g4
  obtain ⟨g7, g8⟩ := and_e g6
  obtain ⟨w0, w1, w2, w3, rfl⟩ : ∃ w0 w1 w2 w3 : Value, args = #[w0, w1, w2, w3] := by
    have hs : args.size = 4 := by simpa [Cond.value, given_1] using g1
    obtain ⟨L⟩ := args
    match L, hs with
    | [w0, w1, w2, w3], _ => exact ⟨w0, w1, w2, w3, rfl⟩
  have hw := fun d (hd : d ∈ tables_1) => atoms_spec (ws := Jvm.Cond.code x code maxLocals ret :: tables_1) hat d (List.mem_cons_of_mem _ hd)
  have hfit : Fit s := fun {y c} hc i hi => by
    obtain ⟨ha, rfl⟩ := Array.getElem?_eq_some_iff.mp hc
    have q := List.all_eq_true.mp ((Array.all_eq_true_iff_forall_mem.mp hF) _ (Array.getElem_mem ha)) i (List.mem_range.mpr hi)
    simpa [Array.getElem?_eq_getElem hi] using q
  obtain ⟨i0, ei0⟩ := is_v g3
  obtain rfl : w0 = (.int i0) := Option.some.inj ei0
  obtain ⟨i1, ei1⟩ := is_v g5
  obtain rfl : w1 = (.int i1) := Option.some.inj ei1
  obtain ⟨i2, ei2⟩ := is_v g7
  obtain rfl : w2 = (.int i2) := Option.some.inj ei2
  obtain ⟨i3, ei3⟩ := is_v g8
  obtain rfl : w3 = (.int i3) := Option.some.inj ei3
  obtain ⟨n, o, h1, h2, h3, _, L, rfl, ⟨hv0, N⟩, hq⟩ := rm0 l s _ hw tables_1 i0 i1 i2 i3 s.heap s.heap.size (Nat.le_refl _) p e ha hc hk s m _ below hf ((Spec.applies_iff_loose hf).mp happ).1 ⟨rfl, State.Warmed39.refl s, rfl⟩ trivial
  subst hv0
  refine ⟨n, _, h1, h2, h3, hpost _ _ _ _ _ _ ⟨Cond.after_iff.mpr rfl, Cond.after_iff.mpr (eq_i res_at (Term.int_eval (1)) rfl), trivial⟩ ⟨hq.1, hq.2.1, (hq.2.2.sift fun y hy => Or.inr (N y hy)).mono (by decide) (by decide)⟩⟩
theorem main_1_1 : Claimed_1_1 := comes_1 fun _ _ _ _ _ _ h hF => ⟨h.1, hF⟩
theorem main_1_2 : Claimed_1_2 := comes_1 fun _ _ _ _ _ _ h hF => ⟨h.2.1, hF⟩
end Jvm.Pilot.@@N@@
namespace Jvm.Pilot.@@N@@
open Jvm Jvm.ClassFile Sem Op Lib Jvm.Free Jvm.Stand Jvm.Pilot.@@N@@.Jvm.D
/-! MADE BY PROGRAM (witnessworld.py) out of the Statement's table words and the real class files: 12 classes; the members and pool entries that the words name. The judged class is class 1, her method 1. -/
namespace start1
open Jvm.ClassFile
def u (s : String) : CpInfo := .utf8 (stringToUtf16 s)
/-- a pool by its gaps: so many unusable entries, then the entry; so many at the end -/
def gap : Nat → List CpInfo → List CpInfo
  | 0, r => r
  | n + 1, r => .unusable :: gap n r
def poolList (es : List (Nat × CpInfo)) (last : Nat) : List CpInfo := es.foldr (fun e r => gap e.1 (e.2 :: r)) (gap last [])
def pool (es : List (Nat × CpInfo)) (last : Nat) : Array CpInfo := ⟨poolList es last⟩
def fileOf (pool : Array CpInfo) (this : Nat) (attrs : Array Attribute := #[]) (ms : Array MethodInfo := #[]) (fl : Nat := 33) (sup : Nat := 0) (ifs : Array Nat := #[]) (fds : Array FieldInfo := #[]) : ClassFile where
  minorVersion := 0
  majorVersion := 65
  constantPool := pool
  accessFlags := fl
  thisClass := this
  superClass := sup
  interfaces := ifs
  fields := fds
  methods := ms
  attributes := attrs
def plain (name : String) (sup : Option ClassId) : Class where
  name := name
  kind := .ordinary
  loader := none
  accessFlags := 33
  super := sup
  interfaces := #[]
  cf := none
  fields := #[]
  methods := #[]
  instanceTypes := #[]
  staticTypes := #[]
  resolved := #[]
  callSites := []
  init := .initialized
  statics := none
  mirror := none

def pool0 : Array CpInfo := pool [(5, u "<init>"), (0, u "()V"), (1, .class_ 10), (1, u "java/lang/Object")] 113

def k0c0 : Code := { maxStack := 0, maxLocals := 1, code := object_method_1_code, exceptionTable := #[], attributes := #[] }
def k0m0 : Method := { name := "<init>", desc := "()V", sig := { parameters := [], returnType := none }, accessFlags := 1, code := some k0c0 }
/-- java/lang/Object -/
def k0 : Class := { plain "java/lang/Object" none with
  accessFlags := 33
  interfaces := #[]
  cf := some (fileOf pool0 8 #[] #[{ accessFlags := 1, nameIndex := 5, descriptorIndex := 6, attributes := #[] }] 33 0 #[] #[])
  fields := #[]
  methods := #[k0m0]
  instanceTypes := #[]
  staticTypes := #[]
  resolved := Array.replicate 124 none
  statics := none }

def pool1 : Array CpInfo := pool [(2, .class_ 4), (0, .nameAndType 5 6), (0, u "java/lang/Object"), (0, u "<init>"), (0, u "()V"), (0, .integer 2147483647), (0, .class_ 9), (0, u "com/example/javelot/javelot/classfile/ByteWriter"), (0, .methodref 8 3), (0, .methodref 8 12), (0, .nameAndType 13 14), (0, u "u4"), (0, u "(I)V"), (0, .methodref 8 16), (0, .nameAndType 17 18), (0, u "putU2"), (0, u "(II)V"), (0, .methodref 8 20), (0, .nameAndType 21 22), (0, u "size"), (0, u "()I"), (0, .methodref 8 24), (0, .nameAndType 25 26), (0, u "toByteArray"), (0, u "()[B"), (0, .methodref 28 29), (0, .class_ 30), (0, .nameAndType 31 32), (0, u "com/example/javelot/javelot/classfile/ByteWriterPutU2PinLaw"), (0, u "ok"), (0, u "([BIIIII)Z"), (2, u "law"), (0, u "(IIII)Z")] 5

def k1m0 : Method := { name := "<init>", desc := "()V", sig := { parameters := [], returnType := none }, accessFlags := 1, code := none }
def k1c1 : Code := { maxStack := 6, maxLocals := 7, code := code, exceptionTable := #[], attributes := #[] }
def k1m1 : Method := { name := "law", desc := "(IIII)Z", sig := { parameters := [.int, .int, .int, .int], returnType := some .boolean }, accessFlags := 9, code := some k1c1 }
def k1c2 : Code := { maxStack := 4, maxLocals := 7, code := method_3_code, exceptionTable := #[], attributes := #[] }
def k1m2 : Method := { name := "ok", desc := "([BIIIII)Z", sig := { parameters := [(.array .byte), .int, .int, .int, .int, .int], returnType := some .boolean }, accessFlags := 10, code := some k1c2 }
/-- com/example/javelot/javelot/classfile/ByteWriterPutU2PinLaw -/
def k1 : Class := { plain "com/example/javelot/javelot/classfile/ByteWriterPutU2PinLaw" (some 0) with
  accessFlags := 49
  interfaces := #[]
  cf := some (fileOf pool1 28 #[] #[{ accessFlags := 1, nameIndex := 5, descriptorIndex := 6, attributes := #[] }, { accessFlags := 9, nameIndex := 35, descriptorIndex := 36, attributes := #[] }, { accessFlags := 10, nameIndex := 31, descriptorIndex := 32, attributes := #[] }] 49 2 #[] #[])
  fields := #[]
  methods := #[k1m0, k1m1, k1m2]
  instanceTypes := #[]
  staticTypes := #[]
  resolved := Array.replicate 42 none
  statics := none }

def pool2 : Array CpInfo := pool [(1, .methodref 2 3), (0, .class_ 4), (0, .nameAndType 5 6), (0, u "java/lang/Object"), (0, u "<init>"), (0, u "()V"), (0, .fieldref 8 9), (0, .class_ 10), (0, .nameAndType 11 12), (0, u "com/example/javelot/javelot/classfile/ByteWriter"), (0, u "bytes"), (0, u "[B"), (0, .methodref 8 14), (0, .nameAndType 15 16), (0, u "ensureRoom"), (0, u "(I)V"), (0, .fieldref 8 18), (0, .nameAndType 19 20), (0, u "size"), (0, u "I"), (2, u "putU2"), (0, u "(II)V"), (6, .methodref 32 33), (0, .class_ 34), (0, .nameAndType 35 36), (0, u "java/util/Arrays"), (0, u "copyOf"), (0, u "([BI)[B"), (10, u "u4"), (3, u "()I"), (0, u "toByteArray"), (0, u "()[B")] 3

def k2c0 : Code := { maxStack := 2, maxLocals := 1, code := prog_1_method_1_code, exceptionTable := #[], attributes := #[] }
def k2m0 : Method := { name := "<init>", desc := "()V", sig := { parameters := [], returnType := none }, accessFlags := 0, code := some k2c0 }
def k2c1 : Code := { maxStack := 5, maxLocals := 2, code := prog_1_method_4_code, exceptionTable := #[], attributes := #[] }
def k2m1 : Method := { name := "u4", desc := "(I)V", sig := { parameters := [.int], returnType := none }, accessFlags := 0, code := some k2c1 }
def k2c2 : Code := { maxStack := 4, maxLocals := 3, code := prog_1_method_5_code, exceptionTable := #[], attributes := #[] }
def k2m2 : Method := { name := "putU2", desc := "(II)V", sig := { parameters := [.int, .int], returnType := none }, accessFlags := 0, code := some k2c2 }
def k2c3 : Code := { maxStack := 1, maxLocals := 1, code := prog_1_method_8_code, exceptionTable := #[], attributes := #[] }
def k2m3 : Method := { name := "size", desc := "()I", sig := { parameters := [], returnType := some .int }, accessFlags := 0, code := some k2c3 }
def k2c4 : Code := { maxStack := 2, maxLocals := 1, code := prog_1_method_9_code, exceptionTable := #[], attributes := #[] }
def k2m4 : Method := { name := "toByteArray", desc := "()[B", sig := { parameters := [], returnType := some (.array .byte) }, accessFlags := 0, code := some k2c4 }
def k2c5 : Code := { maxStack := 5, maxLocals := 2, code := prog_1_method_10_code, exceptionTable := #[], attributes := #[] }
def k2m5 : Method := { name := "ensureRoom", desc := "(I)V", sig := { parameters := [.int], returnType := none }, accessFlags := 2, code := some k2c5 }
/-- com/example/javelot/javelot/classfile/ByteWriter -/
def k2 : Class := { plain "com/example/javelot/javelot/classfile/ByteWriter" (some 0) with
  accessFlags := 48
  interfaces := #[]
  cf := some (fileOf pool2 8 #[] #[{ accessFlags := 0, nameIndex := 5, descriptorIndex := 6, attributes := #[] }, { accessFlags := 0, nameIndex := 47, descriptorIndex := 16, attributes := #[] }, { accessFlags := 0, nameIndex := 23, descriptorIndex := 24, attributes := #[] }, { accessFlags := 0, nameIndex := 19, descriptorIndex := 51, attributes := #[] }, { accessFlags := 0, nameIndex := 52, descriptorIndex := 53, attributes := #[] }, { accessFlags := 2, nameIndex := 15, descriptorIndex := 16, attributes := #[] }] 48 2 #[] #[{ accessFlags := 2, nameIndex := 11, descriptorIndex := 12, attributes := #[] }, { accessFlags := 2, nameIndex := 19, descriptorIndex := 20, attributes := #[] }])
  fields := #[{ name := "bytes", type := (.array .byte), accessFlags := 2, slot := 0, constantValue := 0 }, { name := "size", type := .int, accessFlags := 2, slot := 1, constantValue := 0 }]
  methods := #[k2m0, k2m1, k2m2, k2m3, k2m4, k2m5]
  instanceTypes := #[(.array .byte), .int]
  staticTypes := #[]
  resolved := Array.replicate 57 none
  statics := none }

def pool3 : Array CpInfo := pool [(2, .class_ 4), (1, u "java/lang/Object"), (0, u "<init>"), (0, u "()V"), (7, .class_ 16), (1, u "java/util/Arrays"), (57, .class_ 76), (1, u "java/util/Arrays$NaturalOrder"), (36, .class_ 115), (1, u "java/util/Arrays$LegacyMergeSort"), (1, u "Z"), (32, .methodref 151 152), (0, .class_ 153), (0, .nameAndType 154 155), (0, u "java/lang/System"), (0, u "arraycopy"), (0, u "(Ljava/lang/Object;ILjava/lang/Object;II)V"), (146, u "copyOf"), (1, .methodref 305 306), (0, .class_ 307), (0, .nameAndType 308 309), (0, u "java/lang/Math"), (0, u "min"), (0, u "(II)I"), (65, .class_ 376), (0, u "java/util/Arrays$ArrayList"), (68, u "$assertionsDisabled"), (269, u "MIN_ARRAY_SORT_GRAN"), (0, u "I"), (2, u "INSERTIONSORT_THRESHOLD"), (149, u "([BI)[B"), (105, .class_ 976), (0, u "java/util/Arrays$ArrayItr")] 52

def k3m0 : Method := { name := "<init>", desc := "()V", sig := { parameters := [], returnType := none }, accessFlags := 2, code := none }
def k3c1 : Code := { maxStack := 6, maxLocals := 3, code := jdk_65_method_121_code, exceptionTable := #[], attributes := #[] }
def k3m1 : Method := { name := "copyOf", desc := "([BI)[B", sig := { parameters := [(.array .byte), .int], returnType := some (.array .byte) }, accessFlags := 9, code := some k3c1 }
/-- java/util/Arrays -/
def k3 : Class := { plain "java/util/Arrays" (some 0) with
  accessFlags := 49
  interfaces := #[]
  cf := some (fileOf pool3 14 #[.nestMembers #[975, 375, 113, 74]] #[{ accessFlags := 2, nameIndex := 5, descriptorIndex := 6, attributes := #[] }, { accessFlags := 9, nameIndex := 302, descriptorIndex := 869, attributes := #[] }] 49 2 #[] #[{ accessFlags := 26, nameIndex := 715, descriptorIndex := 716, attributes := #[] }, { accessFlags := 26, nameIndex := 719, descriptorIndex := 716, attributes := #[] }, { accessFlags := 4120, nameIndex := 445, descriptorIndex := 117, attributes := #[] }])
  fields := #[{ name := "MIN_ARRAY_SORT_GRAN", type := .int, accessFlags := 26, slot := 0, constantValue := 0 }, { name := "INSERTIONSORT_THRESHOLD", type := .int, accessFlags := 26, slot := 1, constantValue := 0 }, { name := "$assertionsDisabled", type := .boolean, accessFlags := 4120, slot := 2, constantValue := 0 }]
  methods := #[k3m0, k3m1]
  instanceTypes := #[]
  staticTypes := #[.int, .int, .boolean]
  resolved := Array.replicate 1029 none
  statics := none }

def pool4 : Array CpInfo := pool [(1, .class_ 2), (0, u "java/lang/Math"), (1, .class_ 6), (1, u "java/lang/Object"), (0, u "<init>"), (0, u "()V"), (89, .class_ 100), (1, u "java/lang/Math$RandomNumberGeneratorHolder"), (71, u "negativeZeroFloatBits"), (0, u "J"), (2, u "negativeZeroDoubleBits"), (24, u "min"), (43, u "$assertionsDisabled"), (0, u "Z"), (88, u "(II)I"), (2, u "twoToTheDoubleScaleDown"), (0, u "D"), (4, u "twoToTheDoubleScaleUp"), (9, u "E"), (3, u "PI"), (2, u "TAU"), (2, u "DEGREES_TO_RADIANS"), (0, u "RADIANS_TO_DEGREES")] 94

def k4m0 : Method := { name := "<init>", desc := "()V", sig := { parameters := [], returnType := none }, accessFlags := 2, code := none }
def k4c1 : Code := { maxStack := 2, maxLocals := 2, code := jdk_29_method_69_code, exceptionTable := #[], attributes := #[] }
def k4m1 : Method := { name := "min", desc := "(II)I", sig := { parameters := [.int, .int], returnType := some .int }, accessFlags := 9, code := some k4c1 }
/-- java/lang/Math -/
def k4 : Class := { plain "java/lang/Math" (some 0) with
  accessFlags := 49
  interfaces := #[]
  cf := some (fileOf pool4 1 #[.nestMembers #[98]] #[{ accessFlags := 2, nameIndex := 7, descriptorIndex := 8, attributes := #[] }, { accessFlags := 9, nameIndex := 201, descriptorIndex := 335, attributes := #[] }] 49 4 #[] #[{ accessFlags := 25, nameIndex := 354, descriptorIndex := 339, attributes := #[] }, { accessFlags := 25, nameIndex := 358, descriptorIndex := 339, attributes := #[] }, { accessFlags := 25, nameIndex := 361, descriptorIndex := 339, attributes := #[] }, { accessFlags := 26, nameIndex := 364, descriptorIndex := 339, attributes := #[] }, { accessFlags := 26, nameIndex := 365, descriptorIndex := 339, attributes := #[] }, { accessFlags := 26, nameIndex := 172, descriptorIndex := 173, attributes := #[] }, { accessFlags := 26, nameIndex := 176, descriptorIndex := 173, attributes := #[] }, { accessFlags := 8, nameIndex := 344, descriptorIndex := 339, attributes := #[] }, { accessFlags := 8, nameIndex := 338, descriptorIndex := 339, attributes := #[] }, { accessFlags := 4120, nameIndex := 245, descriptorIndex := 246, attributes := #[] }])
  fields := #[{ name := "E", type := .double, accessFlags := 25, slot := 0, constantValue := 0 }, { name := "PI", type := .double, accessFlags := 25, slot := 1, constantValue := 0 }, { name := "TAU", type := .double, accessFlags := 25, slot := 2, constantValue := 0 }, { name := "DEGREES_TO_RADIANS", type := .double, accessFlags := 26, slot := 3, constantValue := 0 }, { name := "RADIANS_TO_DEGREES", type := .double, accessFlags := 26, slot := 4, constantValue := 0 }, { name := "negativeZeroFloatBits", type := .long, accessFlags := 26, slot := 5, constantValue := 0 }, { name := "negativeZeroDoubleBits", type := .long, accessFlags := 26, slot := 6, constantValue := 0 }, { name := "twoToTheDoubleScaleUp", type := .double, accessFlags := 8, slot := 7, constantValue := 0 }, { name := "twoToTheDoubleScaleDown", type := .double, accessFlags := 8, slot := 8, constantValue := 0 }, { name := "$assertionsDisabled", type := .boolean, accessFlags := 4120, slot := 9, constantValue := 0 }]
  methods := #[k4m0, k4m1]
  instanceTypes := #[]
  staticTypes := #[.double, .double, .double, .double, .double, .long, .long, .double, .double, .boolean]
  resolved := Array.replicate 460 none
  statics := none }

def pool5 : Array CpInfo := pool [(2, .class_ 4), (1, u "java/lang/Object"), (0, u "<init>"), (0, u "()V"), (1, .class_ 10), (1, u "java/lang/System"), (0, u "allowSecurityManager"), (0, u "I"), (16, u "cons"), (0, u "Ljava/io/Console;"), (77, .class_ 110), (1, u "java/lang/System$CallersHolder"), (43, u "initialErrStream"), (0, u "Ljava/io/PrintStream;"), (19, u "security"), (0, u "Ljava/lang/SecurityManager;"), (31, .class_ 209), (0, u "java/lang/System$1"), (7, u "props"), (0, u "Ljava/util/Properties;"), (2, u "lineSeparator"), (0, u "Ljava/lang/String;"), (96, .class_ 321), (1, u "java/lang/System$LoggerFinder"), (5, .class_ 328), (0, u "java/lang/System$Logger"), (67, u "err"), (2, u "out"), (91, u "notSupportedJnuEncoding"), (15, u "in"), (17, u "initialIn"), (0, u "Ljava/io/InputStream;"), (35, u "bootLayer"), (0, u "Ljava/lang/ModuleLayer;"), (99, .class_ 664), (0, u "java/lang/System$2"), (9, u "NEVER"), (2, u "MAYBE"), (49, u "arraycopy"), (0, u "(Ljava/lang/Object;ILjava/lang/Object;II)V"), (72, .class_ 802), (0, u "java/lang/System$Logger$Level")] 31

def k5m0 : Method := { name := "<init>", desc := "()V", sig := { parameters := [], returnType := none }, accessFlags := 2, code := none }
def k5m1 : Method := { name := "arraycopy", desc := "(Ljava/lang/Object;ILjava/lang/Object;II)V", sig := { parameters := [(.object "java/lang/Object"), .int, (.object "java/lang/Object"), .int, .int], returnType := none }, accessFlags := 265, code := none }
/-- java/lang/System -/
def k5 : Class := { plain "java/lang/System" (some 0) with
  accessFlags := 49
  interfaces := #[]
  cf := some (fileOf pool5 8 #[.nestMembers #[319, 327, 801, 108, 663, 208]] #[{ accessFlags := 2, nameIndex := 5, descriptorIndex := 6, attributes := #[] }, { accessFlags := 265, nameIndex := 727, descriptorIndex := 728, attributes := #[] }] 49 2 #[] #[{ accessFlags := 25, nameIndex := 507, descriptorIndex := 526, attributes := #[] }, { accessFlags := 25, nameIndex := 399, descriptorIndex := 155, attributes := #[] }, { accessFlags := 25, nameIndex := 396, descriptorIndex := 155, attributes := #[] }, { accessFlags := 10, nameIndex := 525, descriptorIndex := 526, attributes := #[] }, { accessFlags := 26, nameIndex := 674, descriptorIndex := 12, attributes := #[] }, { accessFlags := 26, nameIndex := 677, descriptorIndex := 12, attributes := #[] }, { accessFlags := 10, nameIndex := 11, descriptorIndex := 12, attributes := #[] }, { accessFlags := 74, nameIndex := 175, descriptorIndex := 176, attributes := #[] }, { accessFlags := 10, nameIndex := 491, descriptorIndex := 222, attributes := #[] }, { accessFlags := 74, nameIndex := 29, descriptorIndex := 30, attributes := #[] }, { accessFlags := 74, nameIndex := 154, descriptorIndex := 155, attributes := #[] }, { accessFlags := 10, nameIndex := 217, descriptorIndex := 218, attributes := #[] }, { accessFlags := 10, nameIndex := 221, descriptorIndex := 222, attributes := #[] }, { accessFlags := 8, nameIndex := 562, descriptorIndex := 563, attributes := #[] }])
  fields := #[{ name := "in", type := (.object "java/io/InputStream"), accessFlags := 25, slot := 0, constantValue := 0 }, { name := "out", type := (.object "java/io/PrintStream"), accessFlags := 25, slot := 1, constantValue := 0 }, { name := "err", type := (.object "java/io/PrintStream"), accessFlags := 25, slot := 2, constantValue := 0 }, { name := "initialIn", type := (.object "java/io/InputStream"), accessFlags := 10, slot := 3, constantValue := 0 }, { name := "NEVER", type := .int, accessFlags := 26, slot := 4, constantValue := 0 }, { name := "MAYBE", type := .int, accessFlags := 26, slot := 5, constantValue := 0 }, { name := "allowSecurityManager", type := .int, accessFlags := 10, slot := 6, constantValue := 0 }, { name := "security", type := (.object "java/lang/SecurityManager"), accessFlags := 74, slot := 7, constantValue := 0 }, { name := "notSupportedJnuEncoding", type := (.object "java/lang/String"), accessFlags := 10, slot := 8, constantValue := 0 }, { name := "cons", type := (.object "java/io/Console"), accessFlags := 74, slot := 9, constantValue := 0 }, { name := "initialErrStream", type := (.object "java/io/PrintStream"), accessFlags := 74, slot := 10, constantValue := 0 }, { name := "props", type := (.object "java/util/Properties"), accessFlags := 10, slot := 11, constantValue := 0 }, { name := "lineSeparator", type := (.object "java/lang/String"), accessFlags := 10, slot := 12, constantValue := 0 }, { name := "bootLayer", type := (.object "java/lang/ModuleLayer"), accessFlags := 8, slot := 13, constantValue := 0 }]
  methods := #[k5m0, k5m1]
  instanceTypes := #[]
  staticTypes := #[(.object "java/io/InputStream"), (.object "java/io/PrintStream"), (.object "java/io/PrintStream"), (.object "java/io/InputStream"), .int, .int, .int, (.object "java/lang/SecurityManager"), (.object "java/lang/String"), (.object "java/io/Console"), (.object "java/io/PrintStream"), (.object "java/util/Properties"), (.object "java/lang/String"), (.object "java/lang/ModuleLayer")]
  resolved := Array.replicate 834 none
  statics := none }

def pool6 : Array CpInfo := pool [(1, u "java/lang/Cloneable"), (0, .class_ 1), (0, u "java/lang/Object"), (0, .class_ 3)] 3

/-- java/lang/Cloneable -/
def k6 : Class := { plain "java/lang/Cloneable" (some 0) with
  accessFlags := 1537
  interfaces := #[]
  cf := some (fileOf pool6 2 #[] #[] 1537 4 #[] #[])
  fields := #[]
  methods := #[]
  instanceTypes := #[]
  staticTypes := #[]
  resolved := Array.replicate 8 none
  statics := none }

def pool7 : Array CpInfo := pool [(1, u "java/io/Serializable"), (0, .class_ 1), (0, u "java/lang/Object"), (0, .class_ 3)] 3

/-- java/io/Serializable -/
def k7 : Class := { plain "java/io/Serializable" (some 0) with
  accessFlags := 1537
  interfaces := #[]
  cf := some (fileOf pool7 2 #[] #[] 1537 4 #[] #[])
  fields := #[]
  methods := #[]
  instanceTypes := #[]
  staticTypes := #[]
  resolved := Array.replicate 8 none
  statics := none }

/-- the primitive byte -/
def k8 : Class := { plain "byte" none with kind := .primitive 'B', accessFlags := 0x411 }
/-- [B -/
def k9 : Class := { plain "[B" (some 0) with kind := .array 8 .byte, interfaces := #[6, 7], accessFlags := 1041 }

/-- the primitive int -/
def k10 : Class := { plain "int" none with kind := .primitive 'I', accessFlags := 0x411 }
/-- [I -/
def k11 : Class := { plain "[I" (some 0) with kind := .array 10 .int, interfaces := #[6, 7], accessFlags := 1041 }

def heap : Heap := #[]
def classes : Array Class := #[k0, k1, k2, k3, k4, k5, k6, k7, k8, k9, k10, k11]
def interned : List (Array UInt16 × Addr) := []
def slotsUsed : Nat := 0
def theMethod : MethodId := ⟨1, 1⟩
def args0 : Array Value := #[.int 5, .int 5, .int 5, .int 5]
def aboutOver (below : List Frame) : State where
  vm := { classes := classes, interned := interned.toArray }
  heap := heap
  slotsUsed := slotsUsed
  threads := #[{ frames := .invoking theMethod args0 :: below }]
def below0 : List Frame := [.native { method := ⟨0, 0⟩, args := #[] }]
def about1 : State := aboutOver below0
def p0 : Program := .bare "" "" ""
def e0 : Env := launch0.env 0 0 0
theorem w_frames : about1.frames = Frame.invoking theMethod args0 :: below0 := rfl
set_option maxRecDepth 65536 in
theorem w_args : argsFit about1.vm theMethod args0 = true := by decide +kernel
set_option maxRecDepth 65536 in
theorem w_heap : heapFits about1 = true := by decide +kernel
set_option maxRecDepth 65536 in
theorem w_runnable : about1.curStatus? = some .runnable := by decide +kernel
set_option maxRecDepth 65536 in
theorem w_alone : about1.alone = true := by decide +kernel
set_option maxRecDepth 65536 in
theorem w_named : about1.methodNamed? x = some theMethod := by decide +kernel
set_option maxRecDepth 65536 in
theorem w_hears : about1.hears theMethod below0 = true := by decide +kernel
set_option maxRecDepth 65536 in
theorem w_ripe : about1.ripe theMethod args0 below0 = true := by decide +kernel
theorem w_running : about1.status = .running := rfl
set_option maxRecDepth 65536 in
theorem w_room : about1.hasRoom e0.platform room_1 = true :=
  launch0.hasRoom_least _ room_1 (by decide +kernel) (by decide +kernel) (by decide +kernel) (by decide +kernel) (by decide +kernel) (by decide +kernel)
theorem allAtoms_all (ts : List Jvm.Cond) (a : Array Jvm.Value) (st : Jvm.State) : (allAtoms ts).before a st = ts.all (fun c => c.before a st) := by
  induction ts with
  | nil => rfl
  | cons c t ih =>
    show (Jvm.Cond.and c (allAtoms t)).before a st = _
    rw [Jvm.Cond.before_and, ih, List.all_cons]
def words1 : List Jvm.Cond := Jvm.Cond.code x code maxLocals ret :: tables_1
/-- a 'code' word, met by the world's own term for the bytes: nothing is compared byte by byte -/
theorem code_word {y : MethodName} {bytes : ByteArray} {mx : Nat} {rt : Option FieldType} {a : Array Value} {s : State} {m : MethodId} {meth : Method} {c : Code} (h1 : s.methodNamed? y = some m) (h2 : s.vm.method? m = some meth) (h3 : meth.code = some c) (h4 : c.code = bytes)
    (h5 : (c.maxLocals == mx && c.exceptionTable.isEmpty && decide (c.maxStack ≤ mostOperands) && decide (meth.sig.returnType = rt) && !meth.locks && decide (parseMethodDescriptor y.desc = some meth.sig)) = true) : (Jvm.Cond.code y bytes mx rt).before a s = true := by
  simp only [Bool.and_eq_true, beq_iff_eq, Bool.not_eq_true', decide_eq_true_eq] at h5
  obtain ⟨⟨⟨⟨⟨g1, g2⟩, g3⟩, g4⟩, g5⟩, g6⟩ := h5
  simp [Cond.before, Cond.holds, Cond.value, h1, h2, h3, h4, g1, g2, g3, g4, g5, g6]
def isCode : Jvm.Cond → Bool
  | .code _ _ _ _ => true
  | _ => false
theorem all_split {L : List Jvm.Cond} {P : Jvm.Cond → Bool} (h1 : L.all (fun c => isCode c || P c) = true) (h2 : ∀ c ∈ L.filter isCode, P c = true) : L.all P = true := by
  refine List.all_eq_true.mpr fun c hc => ?_
  have h := List.all_eq_true.mp h1 c hc
  rcases Bool.eq_false_or_eq_true (isCode c) with hi | hi
  · exact h2 c (List.mem_filter.mpr ⟨hc, hi⟩)
  · simpa [hi] using h
set_option maxRecDepth 65536 in
theorem w_c0 : (Jvm.Cond.code x code maxLocals ret).before args0 about1 = true := code_word (m := ⟨1, 1⟩) (meth := k1m1) (c := k1c1) (by decide +kernel) rfl rfl rfl (by decide +kernel)
set_option maxRecDepth 65536 in
theorem w_c1 : (Jvm.Cond.code ({ cls := "com/example/javelot/javelot/classfile/ByteWriter", name := "<init>", desc := "()V" } : Jvm.MethodName) prog_1_method_1_code (1 : Nat) (Option.none : Option Jvm.ClassFile.FieldType)).before args0 about1 = true := code_word (m := ⟨2, 0⟩) (meth := k2m0) (c := k2c0) (by decide +kernel) rfl rfl rfl (by decide +kernel)
set_option maxRecDepth 65536 in
theorem w_c2 : (Jvm.Cond.code ({ cls := "java/lang/Object", name := "<init>", desc := "()V" } : Jvm.MethodName) object_method_1_code (1 : Nat) (Option.none : Option Jvm.ClassFile.FieldType)).before args0 about1 = true := code_word (m := ⟨0, 0⟩) (meth := k0m0) (c := k0c0) (by decide +kernel) rfl rfl rfl (by decide +kernel)
set_option maxRecDepth 65536 in
theorem w_c3 : (Jvm.Cond.code ({ cls := "com/example/javelot/javelot/classfile/ByteWriter", name := "u4", desc := "(I)V" } : Jvm.MethodName) prog_1_method_4_code (2 : Nat) (Option.none : Option Jvm.ClassFile.FieldType)).before args0 about1 = true := code_word (m := ⟨2, 1⟩) (meth := k2m1) (c := k2c1) (by decide +kernel) rfl rfl rfl (by decide +kernel)
set_option maxRecDepth 65536 in
theorem w_c4 : (Jvm.Cond.code ({ cls := "com/example/javelot/javelot/classfile/ByteWriter", name := "ensureRoom", desc := "(I)V" } : Jvm.MethodName) prog_1_method_10_code (2 : Nat) (Option.none : Option Jvm.ClassFile.FieldType)).before args0 about1 = true := code_word (m := ⟨2, 5⟩) (meth := k2m5) (c := k2c5) (by decide +kernel) rfl rfl rfl (by decide +kernel)
set_option maxRecDepth 65536 in
theorem w_c5 : (Jvm.Cond.code ({ cls := "com/example/javelot/javelot/classfile/ByteWriter", name := "putU2", desc := "(II)V" } : Jvm.MethodName) prog_1_method_5_code (3 : Nat) (Option.none : Option Jvm.ClassFile.FieldType)).before args0 about1 = true := code_word (m := ⟨2, 2⟩) (meth := k2m2) (c := k2c2) (by decide +kernel) rfl rfl rfl (by decide +kernel)
set_option maxRecDepth 65536 in
theorem w_c6 : (Jvm.Cond.code ({ cls := "com/example/javelot/javelot/classfile/ByteWriter", name := "size", desc := "()I" } : Jvm.MethodName) prog_1_method_8_code (1 : Nat) (Option.some Jvm.ClassFile.FieldType.int)).before args0 about1 = true := code_word (m := ⟨2, 3⟩) (meth := k2m3) (c := k2c3) (by decide +kernel) rfl rfl rfl (by decide +kernel)
set_option maxRecDepth 65536 in
theorem w_c7 : (Jvm.Cond.code ({ cls := "com/example/javelot/javelot/classfile/ByteWriter", name := "toByteArray", desc := "()[B" } : Jvm.MethodName) prog_1_method_9_code (1 : Nat) (Option.some (Jvm.ClassFile.FieldType.array Jvm.ClassFile.FieldType.byte))).before args0 about1 = true := code_word (m := ⟨2, 4⟩) (meth := k2m4) (c := k2c4) (by decide +kernel) rfl rfl rfl (by decide +kernel)
set_option maxRecDepth 65536 in
theorem w_c8 : (Jvm.Cond.code ({ cls := "java/util/Arrays", name := "copyOf", desc := "([BI)[B" } : Jvm.MethodName) jdk_65_method_121_code (3 : Nat) (Option.some (Jvm.ClassFile.FieldType.array Jvm.ClassFile.FieldType.byte))).before args0 about1 = true := code_word (m := ⟨3, 1⟩) (meth := k3m1) (c := k3c1) (by decide +kernel) rfl rfl rfl (by decide +kernel)
set_option maxRecDepth 65536 in
theorem w_c9 : (Jvm.Cond.code ({ cls := "java/lang/Math", name := "min", desc := "(II)I" } : Jvm.MethodName) jdk_29_method_69_code (2 : Nat) (Option.some Jvm.ClassFile.FieldType.int)).before args0 about1 = true := code_word (m := ⟨4, 1⟩) (meth := k4m1) (c := k4c1) (by decide +kernel) rfl rfl rfl (by decide +kernel)
set_option maxRecDepth 65536 in
theorem w_c10 : (Jvm.Cond.code ({ cls := "com/example/javelot/javelot/classfile/ByteWriterPutU2PinLaw", name := "ok", desc := "([BIIIII)Z" } : Jvm.MethodName) method_3_code (7 : Nat) (Option.some Jvm.ClassFile.FieldType.boolean)).before args0 about1 = true := code_word (m := ⟨1, 2⟩) (meth := k1m2) (c := k1c2) (by decide +kernel) rfl rfl rfl (by decide +kernel)
def codes1 : List Jvm.Cond := [Jvm.Cond.code x code maxLocals ret, Jvm.Cond.code ({ cls := "com/example/javelot/javelot/classfile/ByteWriter", name := "<init>", desc := "()V" } : Jvm.MethodName) prog_1_method_1_code (1 : Nat) (Option.none : Option Jvm.ClassFile.FieldType), Jvm.Cond.code ({ cls := "java/lang/Object", name := "<init>", desc := "()V" } : Jvm.MethodName) object_method_1_code (1 : Nat) (Option.none : Option Jvm.ClassFile.FieldType), Jvm.Cond.code ({ cls := "com/example/javelot/javelot/classfile/ByteWriter", name := "u4", desc := "(I)V" } : Jvm.MethodName) prog_1_method_4_code (2 : Nat) (Option.none : Option Jvm.ClassFile.FieldType), Jvm.Cond.code ({ cls := "com/example/javelot/javelot/classfile/ByteWriter", name := "ensureRoom", desc := "(I)V" } : Jvm.MethodName) prog_1_method_10_code (2 : Nat) (Option.none : Option Jvm.ClassFile.FieldType), Jvm.Cond.code ({ cls := "com/example/javelot/javelot/classfile/ByteWriter", name := "putU2", desc := "(II)V" } : Jvm.MethodName) prog_1_method_5_code (3 : Nat) (Option.none : Option Jvm.ClassFile.FieldType), Jvm.Cond.code ({ cls := "com/example/javelot/javelot/classfile/ByteWriter", name := "size", desc := "()I" } : Jvm.MethodName) prog_1_method_8_code (1 : Nat) (Option.some Jvm.ClassFile.FieldType.int), Jvm.Cond.code ({ cls := "com/example/javelot/javelot/classfile/ByteWriter", name := "toByteArray", desc := "()[B" } : Jvm.MethodName) prog_1_method_9_code (1 : Nat) (Option.some (Jvm.ClassFile.FieldType.array Jvm.ClassFile.FieldType.byte)), Jvm.Cond.code ({ cls := "java/util/Arrays", name := "copyOf", desc := "([BI)[B" } : Jvm.MethodName) jdk_65_method_121_code (3 : Nat) (Option.some (Jvm.ClassFile.FieldType.array Jvm.ClassFile.FieldType.byte)), Jvm.Cond.code ({ cls := "java/lang/Math", name := "min", desc := "(II)I" } : Jvm.MethodName) jdk_29_method_69_code (2 : Nat) (Option.some Jvm.ClassFile.FieldType.int), Jvm.Cond.code ({ cls := "com/example/javelot/javelot/classfile/ByteWriterPutU2PinLaw", name := "ok", desc := "([BIIIII)Z" } : Jvm.MethodName) method_3_code (7 : Nat) (Option.some Jvm.ClassFile.FieldType.boolean)]
set_option maxRecDepth 65536 in
theorem codes_eq : words1.filter isCode = codes1 := rfl
theorem w_codes : ∀ c ∈ words1.filter isCode, c.before args0 about1 = true := by
  rw [codes_eq]
  intro c hc
  simp only [codes1, List.mem_cons, List.not_mem_nil, or_false] at hc
  rcases hc with rfl | rfl | rfl | rfl | rfl | rfl | rfl | rfl | rfl | rfl | rfl
  · exact w_c0
  · exact w_c1
  · exact w_c2
  · exact w_c3
  · exact w_c4
  · exact w_c5
  · exact w_c6
  · exact w_c7
  · exact w_c8
  · exact w_c9
  · exact w_c10
set_option maxRecDepth 65536 in
theorem w_t1 : (words1.take 24).all (fun c => isCode c || c.before args0 about1) = true := by decide +kernel
set_option maxRecDepth 65536 in
theorem w_t2 : ((words1.drop 24).take 24).all (fun c => isCode c || c.before args0 about1) = true := by decide +kernel
set_option maxRecDepth 65536 in
theorem w_t3 : ((words1.drop 24).drop 24).all (fun c => isCode c || c.before args0 about1) = true := by decide +kernel
theorem w_tables : (allAtoms (Jvm.Cond.code x code maxLocals ret :: tables_1)).before args0 about1 = true := by
  rw [allAtoms_all]
  show words1.all (fun c => c.before args0 about1) = true
  refine all_split ?_ w_codes
  rw [← List.take_append_drop 24 words1, List.all_append, w_t1, ← List.take_append_drop 24 (words1.drop 24), List.all_append, w_t2, w_t3]
  rfl
set_option maxRecDepth 65536 in
theorem w_case : (Jvm.Cond.and given_1 narrow_1).before args0 about1 = true := by decide +kernel
theorem w_applies : (headSpec (Jvm.Cond.code x code maxLocals ret :: tables_1) room_1).applies x e0.platform about1 = true :=
  (Spec.applies_iff w_frames).mpr ⟨w_running, w_runnable, w_alone, w_named, w_hears, w_ripe, w_room, w_tables⟩
theorem atStart : AtStart classFile x code maxLocals ret World_1 tables_1 room_1 Calls_1 rest_1 Pre_1 launch0 p0 e0 about1 theMethod args0 below0 :=
  ⟨lists_1, trivial, launch0.admits_env _ _ _, launch0.least_env, fairChoices_fair.cas, fairChoices_fair.clock, w_frames, w_args, w_heap, w_applies, trivial, trivial, w_case⟩
end start1
theorem witness_1 : WitnessClaimed_1 := ⟨start1.p0, start1.e0, start1.about1, start1.theMethod, start1.args0, start1.below0, start1.atStart⟩
end Jvm.Pilot.@@N@@
