import JvmDerived
import JvmDerived.Pilot.@@N@@Statement
import JvmDerived.Pilot.@@N@@Code
set_option linter.unusedVariables false
set_option linter.unusedSimpArgs false
namespace Jvm.Pilot.@@N@@.OwnKit
open Jvm Sem ClassFile Op Lib Jvm.Stand Jvm.Free Jvm.LawKit Jvm.RoadKit
section New
variable {p : Program} {l : Launch} {e : Env} {R : Room} {s : State} {m : MethodId} {args : Array Value} {below : List Frame} {meth : Method} {c : Code} {T : State} {locs : List Loc} {cells slots : Nat}
theorem retI (X : Stand p l e R s m args below meth c T locs cells slots) (hx : p.tables.exec = Jvm.exec) {pc : Nat} {Ls : Array Slot} {z : Int32} {rest : List Value} (hret : meth.sig.returnType = some .int) (hd : decode c.code pc = .ok (.ireturn, 1)) {fs : List Frame}
    (hl : ∀ (f : JFrame) (acts : List Action), f.method = m → f.locked = none → f.entered = [] → (doReturn e (T.setTop f) acts (some (.int z))).1 = T.setFrames fs) : Steps p.tables e below (T.setTop (mkF m pc Ls (.int z :: rest))) (T.setFrames fs) :=
  retOut X hx hret rfl (Or.inl ⟨rfl, Or.inl rfl, _, rfl⟩) hd hl
theorem lremM {g : JFrame} {target : State} (X : Stand p l e R s m args below meth c T locs cells slots) (hx : p.tables.exec = Jvm.exec) (hg : g.method = m) {x y : Int64} {rest : List Value} (hd : decode c.code g.pc = .ok (.lrem, 1)) (hs : g.stack = .long y :: .long x :: rest) (hy : y ≠ 0)
    (hr : Steps p.tables e below (T.setTop { g with pc := g.pc + 1, stack := .long (x % y) :: rest }) target) : Steps p.tables e below (T.setTop g) target := by
  have q : x - x / y * y = x % y := by
    have g1 := rng64 (x % y)
    have g2 : (x % y).toInt = x.toInt.tmod y.toInt := Int64.toInt_mod x y
    have g3 := Int.tmod_def x.toInt y.toInt
    have g4 : (x / y).toInt = (x.toInt.tdiv y.toInt).bmod (2 ^ 64) := Int64.toInt_div x y
    apply Int64.toInt_inj.mp
    rw [Int64.toInt_sub, Int64.toInt_mul, g4, Int.bmod_mul_bmod, Int.sub_bmod_bmod, Int.mul_comm (x.toInt.tdiv y.toInt), ← g3, ← g2]
    exact Int.bmod_eq_of_le_mul_two (by omega) (by omega)
  exact XS.lrem X.here hx hg hd hs hy (by rw [q]; exact hr)
end New
/-- from here the run ends, and as G says -/
def Goes (tb : Tables) (e : Env) (below : List Frame) (t : State) (G : State → Outcome → Prop) : Prop := ∃ s₂ o, Steps tb e below t s₂ ∧ s₂.status = .running ∧ Ended s₂ below o ∧ G s₂ o
variable {tb : Tables} {e : Env} {below : List Frame} {t t' : State} {G : State → Outcome → Prop}
theorem Goes.by (k : ∀ u, Steps tb e below t' u → Steps tb e below t u) (h : Goes tb e below t' G) : Goes tb e below t G := by
  obtain ⟨s₂, o, h1, h2⟩ := h; exact ⟨s₂, o, k _ h1, h2⟩
theorem Goes.via (k : Steps tb e below t t') (h : Goes tb e below t' G) : Goes tb e below t G := by
  obtain ⟨s₂, o, h1, h2⟩ := h; exact ⟨s₂, o, k.trans h1, h2⟩
theorem jl_t {x y : Int64} (h : x < y) : ifCond.holds .lt (lcmpW x y) = true ∧ ifCond.holds .ge (lcmpW x y) = false := ⟨(if0 _ _).trans (tlt ((lw_lt x y).mpr h)).1, (if0 _ _).trans (tlt ((lw_lt x y).mpr h)).2.1⟩
theorem jl_f {x y : Int64} (h : ¬ x < y) : ifCond.holds .lt (lcmpW x y) = false ∧ ifCond.holds .ge (lcmpW x y) = true := ⟨(if0 _ _).trans (flt (fun q => h ((lw_lt x y).mp q))).1, (if0 _ _).trans (flt (fun q => h ((lw_lt x y).mp q))).2.1⟩
theorem jg_t {x y : Int64} (h : y < x) : ifCond.holds .gt (lcmpW x y) = true ∧ ifCond.holds .le (lcmpW x y) = false := ⟨(if0 _ _).trans (tlt ((lw_gt x y).mpr h)).2.2.1, (if0 _ _).trans (tlt ((lw_gt x y).mpr h)).2.2.2⟩
theorem jg_f {x y : Int64} (h : ¬ y < x) : ifCond.holds .gt (lcmpW x y) = false ∧ ifCond.holds .le (lcmpW x y) = true := ⟨(if0 _ _).trans (flt (fun q => h ((lw_gt x y).mp q))).2.2.1, (if0 _ _).trans (flt (fun q => h ((lw_gt x y).mp q))).2.2.2⟩
theorem je_t {x y : Int64} (h : x = y) : ifCond.holds .eq (lcmpW x y) = true ∧ ifCond.holds .ne (lcmpW x y) = false := ⟨(if0 _ _).trans (teq ((lw_eq x y).mpr h)).1, (if0 _ _).trans (teq ((lw_eq x y).mpr h)).2⟩
theorem je_f {x y : Int64} (h : ¬ x = y) : ifCond.holds .eq (lcmpW x y) = false ∧ ifCond.holds .ne (lcmpW x y) = true := ⟨(if0 _ _).trans (feq (fun q => h ((lw_eq x y).mp q))).1, (if0 _ _).trans (feq (fun q => h ((lw_eq x y).mp q))).2⟩
theorem selP {Z s : State} {a0 args : Array Value} {y : MethodName} {n : Nat} (hZ : Z.Warmed39 s.vm) (wi : (Cond.instantiable y.cls n).before a0 Z = true) (wp : (Cond.privateMethod y).before a0 Z = true) (win : (Cond.instanceMethod y).before a0 Z = true) (hy : y.cls ≠ "java/lang/invoke/MethodHandle" ∧ y.cls ≠ "java/lang/invoke/VarHandle") : (Cond.selects y.cls y y).before args s = true := by
  have w1 : (Cond.instantiable y.cls n).before args s = true := mv hZ wi
  obtain ⟨c, k, h1, h2, -, h4, -⟩ := Cond.instantiable_spec w1
  rw [Bool.or_eq_false_iff] at h4
  exact selects_self_of_private h1 h2 h4.1 (Cond.privateMethod_at (mvP hZ wp (args := args))) (mv hZ win) hy
theorem narR {t : FieldType} {w : Value} (h : t.isReference = true) : narrow t w = w := by cases t <;> first | (cases h; done) | (cases w <;> rfl)
end Jvm.Pilot.@@N@@.OwnKit
namespace Jvm.Pilot.@@N@@.OwnKit
open Jvm Sem ClassFile Op Lib Jvm.Stand Jvm.Free Jvm.LawKit Jvm.RoadKit
/-- one place of a function turned -/
def up {α : Type} (f : Nat → α) (i : Nat) (v : α) : Nat → α := fun j => if j = i then v else f j
/-- an array of n places; place j holds f j -/
def Ar (Z : State) (h : Heap) (a : Addr) (ty : FieldType) (n : Nat) (f : Nat → Value) : Prop := ∃ c : Cell, Arr Z h a c ty ∧ c.slots.size = n ∧ n < 2 ^ 31 ∧ ∀ j, j < n → c.slots[j]? = some (f j) ∧ fits ty (f j) = true
def AI (Z : State) (h : Heap) (a : Addr) (ty : FieldType) (n : Nat) (f : Nat → Int32) : Prop := Ar Z h a ty n (fun j => .int (f j))
def AJ (Z : State) (h : Heap) (a : Addr) (n : Nat) (f : Nat → Int64) : Prop := Ar Z h a .long n (fun j => .long (f j))
section Facts
variable {Z : State} {h h' : Heap} {a b : Addr} {ty : FieldType} {n sl : Nat} {f : Nat → Value} {g : Nat → Int32} {k : Nat → Int64} {v : Value} {ws : List Addr}
theorem up_at {α : Type} (f : Nat → α) (i : Nat) (v : α) : up f i v i = v := if_pos rfl
theorem up_ne {α : Type} (f : Nat → α) {i j : Nat} (v : α) (q : j ≠ i) : up f i v j = f j := if_neg q
theorem Ar.lt (A : Ar Z h a ty n f) : a < h.size := by obtain ⟨c, A, -⟩ := A; exact A.lt
theorem Ar.ext (A : Ar Z h a ty n f) (E : Ext h h') : Ar Z h' a ty n f := by obtain ⟨c, A, r⟩ := A; exact ⟨c, A.ext E, r⟩
theorem Ar.other (A : Ar Z h b ty n f) (W : Wr h h' a sl v) (q : b ≠ a) : Ar Z h' b ty n f := by obtain ⟨c, A, r⟩ := A; exact ⟨c, A.other W q, r⟩
theorem Ar.keep (A : Ar Z h a ty n f) (K : Keep h h' ws) (q : a ∉ ws) : Ar Z h' a ty n f := by obtain ⟨c, A, r⟩ := A; exact ⟨c, ⟨K.2.1 a c A.1 q, A.2⟩, r⟩
theorem own_setSlot (c : Cell) (i : Nat) (v : Value) : (c.setSlot i v).slots = c.slots.setIfInBounds i v := rfl
theorem Ar.wr (A : Ar Z h a ty n f) (W : Wr h h' a sl v) (hf : fits ty v = true) : Ar Z h' a ty n (up f sl v) := by
  obtain ⟨c, A, S, M, G⟩ := A
  refine ⟨c.setSlot sl v, A.same W, by rw [sz_set]; exact S, M, fun j hj => ?_⟩
  by_cases q : j = sl
  · subst q; rw [up_at, own_setSlot, Array.getElem?_setIfInBounds_self_of_lt (by omega)]; exact ⟨rfl, hf⟩
  · rw [up_ne f v q, own_setSlot, Array.getElem?_setIfInBounds_ne (Ne.symm q)]; exact G j hj
theorem Ar.congr {f' : Nat → Value} (A : Ar Z h a ty n f) (q : ∀ j, j < n → f j = f' j) : Ar Z h a ty n f' := by
  obtain ⟨c, A, S, M, G⟩ := A; exact ⟨c, A, S, M, fun j hj => by rw [← q j hj]; exact G j hj⟩
theorem AI.lt (A : AI Z h a ty n g) : a < h.size := Ar.lt A
theorem AI.ext (A : AI Z h a ty n g) (E : Ext h h') : AI Z h' a ty n g := Ar.ext A E
theorem AI.other (A : AI Z h b ty n g) (W : Wr h h' a sl v) (q : b ≠ a) : AI Z h' b ty n g := Ar.other A W q
theorem AI.keep (A : AI Z h a ty n g) (K : Keep h h' ws) (q : a ∉ ws) : AI Z h' a ty n g := Ar.keep A K q
theorem AI.wr {x : Int32} (A : AI Z h a ty n g) (W : Wr h h' a sl (.int x)) (hf : fits ty (.int x) = true) : AI Z h' a ty n (up g sl x) :=
  (Ar.wr A W hf).congr fun j _ => by simp only [up]; split <;> rfl
theorem AI.congr {g' : Nat → Int32} (A : AI Z h a ty n g) (q : ∀ j, j < n → g j = g' j) : AI Z h a ty n g' := Ar.congr A fun j hj => by rw [q j hj]
theorem AJ.lt (A : AJ Z h a n k) : a < h.size := Ar.lt A
theorem AJ.ext (A : AJ Z h a n k) (E : Ext h h') : AJ Z h' a n k := Ar.ext A E
theorem AJ.other (A : AJ Z h b n k) (W : Wr h h' a sl v) (q : b ≠ a) : AJ Z h' b n k := Ar.other A W q
theorem AJ.keep (A : AJ Z h a n k) (K : Keep h h' ws) (q : a ∉ ws) : AJ Z h' a n k := Ar.keep A K q
theorem AJ.wr {x : Int64} (A : AJ Z h a n k) (W : Wr h h' a sl (.long x)) : AJ Z h' a n (up k sl x) :=
  (Ar.wr A W rfl).congr fun j _ => by simp only [up]; split <;> rfl
theorem AJ.congr {k' : Nat → Int64} (A : AJ Z h a n k) (q : ∀ j, j < n → k j = k' j) : AJ Z h a n k' := Ar.congr A fun j hj => by rw [q j hj]
theorem Ar.bound (A : Ar Z h a ty n f) : n < 2 ^ 31 := by obtain ⟨c, A, S, M, G⟩ := A; exact M
theorem ixo {j : Int32} {i n : Nat} (hj : j.toInt = (i : Int)) (hi : i < n) : ¬ (j < 0 ∨ n ≤ j.toNatClampNeg) ∧ j.toNatClampNeg = i := by
  have e0 : (0 : Int32).toInt = 0 := rfl
  have q : j.toNatClampNeg = i := by rw [Int32.toNatClampNeg, hj]; rfl
  refine ⟨fun z => z.elim (fun u => ?_) fun u => ?_, q⟩
  · rw [Int32.lt_iff_toInt_lt] at u; omega
  · omega
theorem lenI {n : Nat} {z : Int32} (hz : z.toInt = (n : Int)) : n.toInt32 = z := by
  apply Int32.toInt_inj.mp
  have r := rng32 z
  rw [hz]; exact Int32.toInt_ofNat_of_lt (by omega)
theorem Ar.arv (A : Ar Z h a ty n f) : ∃ k, Arv Z h a k ty (Int32.ofNat n) ((List.range n).map f) (f 0) := by
  obtain ⟨c, A, S, M, G⟩ := A
  have e0 : (0 : Int32).toInt = 0 := rfl
  have hz : (Int32.ofNat n).toInt = (n : Int) := Int32.toInt_ofNat_of_lt (by omega)
  have hq : (Int32.ofNat n).toNatClampNeg = n := by rw [Int32.toNatClampNeg, hz]; rfl
  have hg : ∀ i, i < n → ((List.range n).map f).getD i (f 0) = f i := fun i hi => by
    rw [List.getD_eq_getElem?_getD, List.getElem?_map, List.getElem?_range hi]; rfl
  refine ⟨c.cls, c, A, rfl, by rw [hq]; exact S, by rw [Int32.lt_iff_toInt_lt, hz]; omega, fun i hi => ?_, fun i hi => ?_⟩
  · rw [hg i (by omega)]; exact (G i (by omega)).1
  · rw [hg i (by omega)]; exact (G i (by omega)).2
theorem Ar.of_arv {k : ClassId} {z : Int32} {vs : List Value} {d : Value} (A : Arv Z h a k ty z vs d) (hz : z.toInt = (n : Int)) : Ar Z h a ty n (fun j => vs.getD j d) := by
  obtain ⟨c, A, q, S, N, H, G⟩ := A
  have hq : z.toNatClampNeg = n := by rw [Int32.toNatClampNeg, hz]; rfl
  have r := rng32 z
  exact ⟨c, A, by rw [S, hq], by omega, fun j hj => ⟨H j (by omega), G j (by omega)⟩⟩
end Facts
section Steps
variable {p : Program} {l : Launch} {e : Env} {R : Room} {s : State} {m : MethodId} {args : Array Value} {below : List Frame} {meth : Method} {c : Code} {T : State} {locs : List Loc} {cells slots : Nat} {Z : State} {h : Heap} {a : Addr} {n i : Nat} {j : Int32} {rest : List Value} {fr : JFrame} {target : State}
theorem ldI {f : Nat → Int32} {v : Int32} (X : Stand p l e R s m args below meth c T locs cells slots) (hx : p.tables.exec = Jvm.exec) (hZ : Z.Warmed39 s.vm) (eT : T.heap = h) (A : AI Z h a .int n f) (hj : j.toInt = (i : Int)) (hi : i < n) (hv : v = f i) (hg : fr.method = m) (hs : fr.stack = .int j :: .ref a :: rest) (hd : decode c.code fr.pc = .ok (.iaload, 1))
    (hr : Steps p.tables e below (T.setTop { fr with pc := fr.pc + 1, stack := .int v :: rest }) target) : Steps p.tables e below (T.setTop fr) target := by
  obtain ⟨cl, A, S, M, G⟩ := A
  obtain ⟨q1, q2⟩ := ixo hj hi
  exact X.iaload hx (j := j) (v := .int v) (by rw [eT]; exact A.1) (State.isArrayOf_alike hZ.alike A.2.1) A.2.2 (by rw [S]; exact q1) (by rw [q2, hv]; exact (G i hi).1) hg hs hd _ hr
theorem ldB {f : Nat → Int32} {v : Int32} (X : Stand p l e R s m args below meth c T locs cells slots) (hx : p.tables.exec = Jvm.exec) (hZ : Z.Warmed39 s.vm) (eT : T.heap = h) (A : AI Z h a .byte n f) (hj : j.toInt = (i : Int)) (hi : i < n) (hv : v = f i) (hg : fr.method = m) (hs : fr.stack = .int j :: .ref a :: rest) (hd : decode c.code fr.pc = .ok (.baload, 1))
    (hr : Steps p.tables e below (T.setTop { fr with pc := fr.pc + 1, stack := .int v :: rest }) target) : Steps p.tables e below (T.setTop fr) target := by
  obtain ⟨cl, A, S, M, G⟩ := A
  obtain ⟨q1, q2⟩ := ixo hj hi
  exact X.baloadBytes hx (j := j) (v := .int v) (by rw [eT]; exact A.1) (State.isArrayOf_alike hZ.alike A.2.1) A.2.2 (by rw [S]; exact q1) (by rw [q2, hv]; exact (G i hi).1) hg hs hd _ hr
theorem ldJ {f : Nat → Int64} {v : Int64} (X : Stand p l e R s m args below meth c T locs cells slots) (hx : p.tables.exec = Jvm.exec) (hZ : Z.Warmed39 s.vm) (eT : T.heap = h) (A : AJ Z h a n f) (hj : j.toInt = (i : Int)) (hi : i < n) (hv : v = f i) (hg : fr.method = m) (hs : fr.stack = .int j :: .ref a :: rest) (hd : decode c.code fr.pc = .ok (.laload, 1))
    (hr : Steps p.tables e below (T.setTop { fr with pc := fr.pc + 1, stack := .long v :: rest }) target) : Steps p.tables e below (T.setTop fr) target := by
  obtain ⟨cl, A, S, M, G⟩ := A
  obtain ⟨q1, q2⟩ := ixo hj hi
  exact X.laload hx (j := j) (v := .long v) (by rw [eT]; exact A.1) (State.isArrayOf_alike hZ.alike A.2.1) A.2.2 (by rw [S]; exact q1) (by rw [q2, hv]; exact (G i hi).1) hg hs hd _ hr
theorem alen {ty : FieldType} {f : Nat → Value} {z : Int32} (X : Stand p l e R s m args below meth c T locs cells slots) (hx : p.tables.exec = Jvm.exec) (hZ : Z.Warmed39 s.vm) (eT : T.heap = h) (A : Ar Z h a ty n f) (hz : z.toInt = (n : Int)) (hg : fr.method = m) (hs : fr.stack = .ref a :: rest) (hd : decode c.code fr.pc = .ok (.arraylength, 1))
    (hr : Steps p.tables e below (T.setTop { fr with pc := fr.pc + 1, stack := .int z :: rest }) target) : Steps p.tables e below (T.setTop fr) target := by
  obtain ⟨cl, A, S, M, G⟩ := A
  exact X.arraylength hx (by rw [eT]; exact A.1) (State.isArrayOf_alike hZ.alike A.2.1) hg hs hd _ (by rw [S, lenI hz]; exact hr)
theorem stAI {f : Nat → Int32} {x : Int32} (X : Stand p l e R s m args below meth c T locs cells slots) (hx : p.tables.exec = Jvm.exec) (hZ : Z.Warmed39 s.vm) (eT : T.heap = h) (A : AI Z h a .int n f) (hj : j.toInt = (i : Int)) (hi : i < n) (hg : fr.method = m) (hs : fr.stack = .int x :: .int j :: .ref a :: rest) (hd : decode c.code fr.pc = .ok (.iastore, 1)) :
    ∃ T' h', Stand p l e R s m args below meth c T' (locs ++ [⟨a, i⟩]) cells slots ∧ T'.heap = h' ∧ Wr h h' a i (.int x) ∧ AI Z h' a .int n (up f i x) ∧ ∀ target, Steps p.tables e below (T'.setTop { fr with pc := fr.pc + 1, stack := rest }) target → Steps p.tables e below (T.setTop fr) target := by
  have A0 := A
  obtain ⟨cl, A, S, M, G⟩ := A
  obtain ⟨q1, q2⟩ := ixo hj hi
  obtain ⟨T', h', X', e', W', st⟩ := stI X hx hZ eT A (j := j) (by rw [S]; exact q1) hg hs hd
  rw [q2] at X' W'
  exact ⟨T', h', X', e', W', A0.wr W' rfl, st⟩
theorem stAB {f : Nat → Int32} {x : Int32} (X : Stand p l e R s m args below meth c T locs cells slots) (hx : p.tables.exec = Jvm.exec) (hZ : Z.Warmed39 s.vm) (eT : T.heap = h) (A : AI Z h a .byte n f) (hj : j.toInt = (i : Int)) (hi : i < n) (hg : fr.method = m) (hs : fr.stack = .int x :: .int j :: .ref a :: rest) (hd : decode c.code fr.pc = .ok (.bastore, 1)) :
    ∃ T' h', Stand p l e R s m args below meth c T' (locs ++ [⟨a, i⟩]) cells slots ∧ T'.heap = h' ∧ Wr h h' a i (.int x.toInt8.toInt32) ∧ AI Z h' a .byte n (up f i x.toInt8.toInt32) ∧ ∀ target, Steps p.tables e below (T'.setTop { fr with pc := fr.pc + 1, stack := rest }) target → Steps p.tables e below (T.setTop fr) target := by
  have A0 := A
  obtain ⟨cl, A, S, M, G⟩ := A
  obtain ⟨q1, q2⟩ := ixo hj hi
  obtain ⟨T', h', X', e', W', st⟩ := stB X hx hZ eT A (j := j) (by rw [S]; exact q1) hg hs hd
  rw [q2] at X' W'
  exact ⟨T', h', X', e', W', A0.wr W' (fits_nar_byte x), st⟩
theorem stAJ {f : Nat → Int64} {x : Int64} (X : Stand p l e R s m args below meth c T locs cells slots) (hx : p.tables.exec = Jvm.exec) (hZ : Z.Warmed39 s.vm) (eT : T.heap = h) (A : AJ Z h a n f) (hj : j.toInt = (i : Int)) (hi : i < n) (hg : fr.method = m) (hs : fr.stack = .long x :: .int j :: .ref a :: rest) (hd : decode c.code fr.pc = .ok (.lastore, 1)) :
    ∃ T' h', Stand p l e R s m args below meth c T' (locs ++ [⟨a, i⟩]) cells slots ∧ T'.heap = h' ∧ Wr h h' a i (.long x) ∧ AJ Z h' a n (up f i x) ∧ ∀ target, Steps p.tables e below (T'.setTop { fr with pc := fr.pc + 1, stack := rest }) target → Steps p.tables e below (T.setTop fr) target := by
  have A0 := A
  obtain ⟨cl, A, S, M, G⟩ := A
  obtain ⟨q1, q2⟩ := ixo hj hi
  obtain ⟨T', h', X', e', W', st⟩ := stJ X hx hZ eT A (j := j) (by rw [S]; exact q1) hg hs hd
  rw [q2] at X' W'
  exact ⟨T', h', X', e', W', A0.wr W', st⟩
theorem nwA {a0 : Array Value} {aty : ArrayType} {z : Int32} {cap : Nat} (X : Stand p l e R s m args below meth c T locs cells slots) (hx : p.tables.exec = Jvm.exec) (hZ : Z.Warmed39 s.vm) (w : (Cond.arrayClass (newarray.typeOf aty)).before a0 Z = true) (eT : T.heap = h) (hz : z.toInt = (n : Int)) (hcap : n ≤ cap) (hb : cap * 8 ≤ 536870912) (hc : cells + 1 ≤ R.cells) (hl : slots + cap ≤ R.slots) (hg : fr.method = m) (hs : fr.stack = .int z :: rest) (hd : decode c.code fr.pc = .ok (.newarray aty, 2)) :
    ∃ T' h', Stand p l e R s m args below meth c T' locs (cells + 1) (slots + cap) ∧ T'.heap = h' ∧ Ext h h' ∧ Ar Z h' h.size (newarray.typeOf aty) n (fun _ => defaultValue (newarray.typeOf aty)) ∧ ∀ target, Steps p.tables e below (T'.setTop { fr with pc := fr.pc + 2, stack := .ref h.size :: rest }) target → Steps p.tables e below (T.setTop fr) target := by
  have e0 : (0 : Int32).toInt = 0 := rfl
  have q : z.toNatClampNeg = n := by rw [Int32.toNatClampNeg, hz]; rfl
  have qn : ¬ z < 0 := by rw [Int32.lt_iff_toInt_lt]; omega
  have r := rng32 z
  obtain ⟨T', h', cA, X', e', E', A', st⟩ := newP X hx hZ w eT hg hd hs qn (cap := cap) (by omega) hb hc hl
  refine ⟨T', h', X', e', E', ⟨_, A', by rw [sz_new, q], by omega, fun i hi => ⟨?_, by cases aty <;> rfl⟩⟩, st⟩
  simp [newA, q, hi]
/-- System.arraycopy of the first k places -/
theorem cpAr {a0 : Array Value} {own : String} {index : Nat} {b : Addr} {ty : FieldType} {n1 n2 k : Nat} {f1 f2 : Nat → Value} {nn : Int32} {n0 W : Nat} (X : Stand p l e R s m args below meth c T locs cells slots) (hx : p.tables.exec = Jvm.exec) (hZ : Z.Warmed39 s.vm) (hown : s.vm.findClass own = some m.cls)
    (w1 : (Cond.methodLink own index Jvm.Stand.acN).before a0 Z = true) (w2 : (Cond.native Jvm.Stand.acN).before a0 Z = true) (w3 : (Cond.static Jvm.Stand.acN).before a0 Z = true) (w4 : (Cond.initialized "java/lang/System").before a0 Z = true) (eT : T.heap = h)
    (A : Ar Z h a ty n1 f1) (B : Ar Z h b ty n2 f2) (hty : refKind ty = false) (hk : nn.toInt = (k : Int)) (h4 : k ≤ n1) (h5 : k ≤ n2) (N : Fr n0 locs) (ge : n0 ≤ b)
    (hg : fr.method = m) (hsize : fr.locals.size = c.maxLocals) (hs : fr.stack = .int nn :: .int 0 :: .ref b :: .int 0 :: .ref a :: rest) (hd : decode c.code fr.pc = .ok (.invokestatic index, 3))
    (hf : 1 ≤ R.frames) (hW : 2 * fr.monitorRoom + (rest.map fun v => v.category).sum ≤ W) (hlo : W + (nativeFrameWords "java/lang/System" "arraycopy" 5 + 11) ≤ R.locals) :
    ∃ T' h' L, Stand p l e R s m args below meth c T' L cells slots ∧ T'.heap = h' ∧ Fr n0 L ∧ Keep h h' [b] ∧ Ar Z h' b ty n2 (fun j => if j < k then f1 j else f2 j) ∧
      ∀ target, Steps p.tables e below (T'.setTop { fr with pc := fr.pc + 3, stack := rest }) target → Steps p.tables e below (T.setTop fr) target := by
  obtain ⟨ka, A'⟩ := A.arv
  obtain ⟨kb, B'⟩ := B.arv
  have m1 := A.bound
  have m2 := B.bound
  have e0 : (0 : Int32).toInt = 0 := rfl
  have z0 : (0 : Int32).toNatClampNeg = 0 := rfl
  have hkk : nn.toNatClampNeg = k := by rw [Int32.toNatClampNeg, hk]; rfl
  have q1 : (Int32.ofNat n1).toInt = (n1 : Int) := Int32.toInt_ofNat_of_lt (by omega)
  have q2 : (Int32.ofNat n2).toInt = (n2 : Int) := Int32.toInt_ofNat_of_lt (by omega)
  have p1 : (Int32.ofNat n1).toNatClampNeg = n1 := by rw [Int32.toNatClampNeg, q1]; rfl
  have p2 : (Int32.ofNat n2).toNatClampNeg = n2 := by rw [Int32.toNatClampNeg, q2]; rfl
  obtain ⟨T', h', L', X', e', N', K', B2, st⟩ := cpA X hx hZ hown w1 w2 w3 w4 eT A' B' (Or.inl ⟨rfl, hty⟩) (sp := 0) (dp := 0) (nn := nn) (by decide) (by decide) (by rw [Int32.lt_iff_toInt_lt]; omega) (by rw [z0, hkk, p1]; omega) (by rw [z0, hkk, p2]; omega) rfl (by rw [z0, hkk, List.length_map, List.length_range]; omega) N ge hg hsize hs hd hf hW hlo
  refine ⟨T', h', L', X', e', N', K', (Ar.of_arv B2 q2).congr fun j hj => ?_, st⟩
  simp only [z0, hkk, List.take_zero, List.nil_append, Nat.zero_add, List.getD_eq_getElem?_getD]
  by_cases c1 : j < k
  · rw [if_pos c1, List.getElem?_append_left (by simpa using c1)]
    simp [c1, show j < n1 by omega]
  · rw [if_neg c1, List.getElem?_append_right (by simpa using c1)]
    simp [show k + (j - k) = j by omega, hj]
end Steps
end Jvm.Pilot.@@N@@.OwnKit
namespace Jvm.Pilot.@@N@@.OwnKit
open Jvm Sem ClassFile Op Lib Jvm.Stand Jvm.Free Jvm.LawKit Jvm.RoadKit
theorem own_isa (vm : Vm) (f : Nat) (a b : ClassId) : vm.isSubclassAux (f + 1) a b = (a == b || match vm.classes[a]? with
      | some k => match k.super with
        | some q => vm.isSubclassAux f q b
        | none => false
      | none => false) := rfl
theorem own_asg (vm : Vm) (a b : ClassId) : vm.assignable a b = (a == b || match vm.classes[a]?, vm.classes[b]? with
      | some ks, some kt =>
        match ks.kind, kt.kind with
        | .array sc _, .array tc _ =>
          if vm.isPrimitive sc || vm.isPrimitive tc then sc == tc else vm.assignableAux 255 sc tc
        | .primitive _, _ | _, .primitive _ => false
        | _, _ => if kt.isInterface then (vm.superinterfaces a).contains b else vm.isSubclassAux (vm.classes.size + 1) a b
      | _, _ => false) := rfl
section NotOf
variable {Z : State} {a0 : Array Value}
theorem own_root {O K : String} {n : Nat} (w : (Cond.noSuperclass O).before a0 Z = true) (wk : (Cond.instantiable K n).before a0 Z = true) (hn : O ≠ K) : NS Z O K := by
  obtain ⟨c, k, h1, h2, h3, -, -⟩ := Cond.noSuperclass_spec w
  obtain ⟨t, kt, g1, g2, -⟩ := Cond.instantiable_spec wk
  have ne := ids_ne h1 g1 hn
  refine ⟨c, t, h1, g1, fun fuel => ?_⟩
  cases fuel with
  | zero => rfl
  | succ f => rw [own_isa, h2]; simp [ne, h3]
theorem own_step {C S K : String} (w : (Cond.superclass C S).before a0 Z = true) (n : NS Z S K) (hn : C ≠ K) : NS Z C K := NS.step w n hn
theorem own_no {C S K : String} {nk : Nat} (w : (Cond.superclass C S).before a0 Z = true) (wk : (Cond.instantiable K nk).before a0 Z = true) (n : NS Z C K) (hn : C ≠ K) : ∃ c t, Z.vm.findClass C = some c ∧ Z.vm.findClass K = some t ∧ Z.vm.assignable c t = false := by
  obtain ⟨c, t, h0, g0, n3⟩ := n
  obtain ⟨p, k, kp, h1, h2, h3, h4, h5, -, h7⟩ := Cond.superclass_spec h0 w
  obtain ⟨t', kt, g1, g2, g3, g4, -⟩ := Cond.instantiable_spec wk
  cases g0.symm.trans g1
  have ne := ids_ne h0 g0 hn
  have g5 : kt.isInterface = false := by
    rw [Bool.or_eq_false_iff] at g4; exact g4.1
  refine ⟨c, t, h0, g0, ?_⟩
  rw [own_asg, h2, g2]
  simp [ne, h5, g3, g5, n3]
end NotOf
section Cache
variable {p : Program} {l : Launch} {e : Env} {R : Room} {s : State} {m : MethodId} {args : Array Value} {below : List Frame} {meth : Method} {c : Code} {T : State} {locs : List Loc} {cells slots : Nat} {Z : State} {h : Heap} {a : Addr} {j : Int32} {rest : List Value} {fr : JFrame}
/-- the table of old Integers: what lies at a place of it is an old Integer -/
def Cac (Z : State) (a : Addr) : Prop := ∃ cl : Cell, Arr Z Z.heap a cl (.object "java/lang/Integer") ∧ cl.slots.size = 256 ∧ ∀ i : Nat, i < 256 → ∃ b : Addr, cl.slots[i]? = some (.ref b) ∧ Exa Z Z.heap b "java/lang/Integer"
theorem ldCac {i : Nat} (X : Stand p l e R s m args below meth c T locs cells slots) (hx : p.tables.exec = Jvm.exec) (hZ : Z.Warmed39 s.vm) (eT : T.heap = h) (E : Ext Z.heap h) (A : Cac Z a) (hj : j.toInt = (i : Int)) (hi : i < 256) (hg : fr.method = m) (hs : fr.stack = .int j :: .ref a :: rest) (hd : decode c.code fr.pc = .ok (.aaload, 1)) :
    ∃ b : Addr, Exa Z h b "java/lang/Integer" ∧ ∀ target, Steps p.tables e below (T.setTop { fr with pc := fr.pc + 1, stack := .ref b :: rest }) target → Steps p.tables e below (T.setTop fr) target := by
  obtain ⟨cl, A, S, G⟩ := A
  obtain ⟨b, gb, Eb⟩ := G i hi
  obtain ⟨q1, q2⟩ := ixo hj hi
  exact ⟨b, Eb.ext E, fun target hr => X.aaload hx (j := j) (v := .ref b) (by rw [eT]; exact (A.ext E).1) (State.isArrayOf_alike hZ.alike A.2.1) rfl A.2.2 (by rw [S]; exact q1) (by rw [q2]; exact gb) hg hs hd _ hr⟩
end Cache
end Jvm.Pilot.@@N@@.OwnKit
namespace Jvm.Pilot.@@N@@.OwnKit
open Jvm Sem ClassFile Op Lib Jvm.Stand Jvm.Free Jvm.LawKit Jvm.RoadKit
theorem own_lenE (t : Term) (args : Array Value) (first s : State) (o : Option Outcome) (idx : List Nat) : (Term.length t).eval args first o idx s = ((t.eval args first o idx s).bind fun v => match v with | .ref a => ((s.arrayAt? a).bind fun c => if c.slots.size < 2 ^ 31 then some (.int c.slots.size.toInt32) else none) | _ => none) := rfl
theorem own_small {t : Term} {args : Array Value} {s : State} {a : Addr} {c : Cell} {v : Value} (ht : t.eval args s none [] s = some (.ref a)) (ha : s.arrayAt? a = some c) (h : (Term.length t).eval args s none [] s = some v) : c.slots.size < 2 ^ 31 ∧ v = .int c.slots.size.toInt32 := by
  rw [own_lenE, ht, Option.bind_some] at h
  dsimp only at h
  rw [ha, Option.bind_some] at h
  by_cases q : c.slots.size < 2 ^ 31
  · rw [if_pos q] at h; exact ⟨q, (Option.some.inj h).symm⟩
  · rw [if_neg q] at h; cases h
theorem own_cac {Z : State} {args : Array Value} {C n d : String} {a : Addr} {cl : Cell} {q : Cond} (et : (Term.static C n d).eval args Z none [] Z = some (.ref a)) (A : Arr Z Z.heap a cl (.object "java/lang/Integer"))
    (hl : (Cond.eq (.length (.static C n d)) (.int 256)).value args Z none Z [] = some true)
    (ha : (Cond.all (.static C n d) (.and (.exactly (.elem (.static C n d) (.index 0)) "java/lang/Integer") q)).value args Z none Z [] = some true) : Cac Z a := by
  have et' : ∀ idx, (Term.static C n d).eval args Z none idx Z = some (.ref a) := fun idx => et
  have hA := A.fin (Vm.Alike.refl _)
  have hs : cl.slots.size = 256 := by
    obtain ⟨e3, e4⟩ := own_small et hA (eqv_i (Term.int_eval (256)) hl)
    have e5 := Value.int.inj e4
    have e6 := len_toInt e3
    rw [← e5] at e6
    have e7 : (256 : Int32).toInt = 256 := rfl
    omega
  refine ⟨cl, A, hs, fun i hi => ?_⟩
  have hj : ((Int32.ofNat i).toInt) = (i : Int) := Int32.toInt_ofNat_of_lt (by omega)
  obtain ⟨q1, q2⟩ := ixo hj (n := 256) hi
  obtain ⟨u1, u2⟩ := and_e (Cond.all_elim (et' []) hA ha i (by omega))
  obtain ⟨box, eb⟩ := exa_v u1
  have nn : ¬ (Int32.ofNat i) < 0 := fun x => q1 (Or.inl x)
  have h1 := elem_f (et' [i]) (idx_at (args := args) (s := Z) (first := Z) (o := none) nn |> fun z => by rw [q2] at z; exact z) hA nn
  rw [q2] at h1
  exact ⟨box, h1.symm.trans eb, exa_at eb u1⟩
end Jvm.Pilot.@@N@@.OwnKit
namespace Jvm.Pilot.@@N@@
open Jvm Jvm.ClassFile Sem Op Lib Jvm.Free Jvm.Stand Jvm.LawKit Jvm.RoadKit Bundle Jvm.Pilot.@@N@@.Jvm.D Jvm.Pilot.@@N@@.OwnKit
theorem d2_0 : decode jdk_30_method_1_code 0 = .ok (.aload_n 0, 1) := by decide +kernel
theorem d2_1 : decode jdk_30_method_1_code 1 = .ok (.invokespecial 1, 3) := by decide +kernel
theorem d2_4 : decode jdk_30_method_1_code 4 = .ok (.return_, 1) := by decide +kernel
theorem pn_0 : plainName "java/lang/Record" = true := by first | (simp [plainName, overriddenIn]; done) | decide +kernel
theorem ef2 (m : MethodId) (oa : Addr) : entryFrame m #[(.ref oa)] 1 = mkF m 0 #[.val (.ref oa)] [] := by first | (simp [entryFrame, mkF, argsToLocals, Value.category]; done) | rfl
def Q2 (Z : State) (oa : Addr) (h0 : Heap) (n0 : Nat) (v : Option Value) (h : Heap) (L : List Loc) : Prop := v = none ∧ Fr n0 L ∧ h = h0
set_option maxRecDepth 65536 in
set_option maxHeartbeats 40000000 in
theorem rm2 (l : Launch) (Z : State) (a0 : Array Value) (hw : ∀ d ∈ tables_1, d.before a0 Z = true) (ws : List Jvm.Cond) (oa : Addr) (h0 : Heap) (n0 : Nat) (Z0 : n0 ≤ h0.size) :
    MetFree l (⟨"java/lang/Record", "<init>", "()V"⟩ : MethodName) (head1 (Jvm.Cond.code (⟨"java/lang/Record", "<init>", "()V"⟩ : MethodName) jdk_30_method_1_code 1 none :: ws) ({ frames := 1, cells := 0, slots := 0, locals := 12 } : Room)) (fun a U => a = #[(.ref oa)] ∧ Z.Warmed39 U.vm ∧ U.heap = h0) (fun _ _ _ _ _ => True) (fun _ U o U' => ∃ v L, o = .returned v ∧ Q2 Z oa h0 n0 v U'.heap L ∧ FrameEnd U o U' L ({ frames := 1, cells := 0, slots := 0, locals := 12 } : Room).cells ({ frames := 1, cells := 0, slots := 0, locals := 12 } : Room).slots) := by
  refine MetFree.of_bodySF (plainFor_of_name pn_0) hisR ?_
  intro p e s m args below meth c s₁ Bd hml0 hP hK
  obtain ⟨rfl, hZ, hh⟩ := hP
  have hx := Bd.exec
  have hby := Bd.bytes
  have hml : c.maxLocals = 1 := hml0
  have hown : s.vm.findClass "java/lang/Record" = some m.cls := findClass_of_methodNamed Bd.named
  have hnm := (name_of_methodNamed Bd.named Bd.method).1
  have X0 : Stand p l e ({ frames := 1, cells := 0, slots := 0, locals := 12 } : Room) s m #[(.ref oa)] below meth c s₁ [] 0 0 := Stand.of_body Bd
  have e0 : s₁.heap = h0 := by rw [← hh, Bd.state]; rfl
  have N0 := Fr.nil n0
  refine Goes.by (fun _ k => castTop (ef2 m oa) k) ?_
  show Goes p.tables e below (s₁.setTop (mkF m 0 #[.val (.ref oa)] [])) _
  refine Goes.by (fun _ k => XS.aloadN X0.here hx rfl (hb hby d2_0) rfl rfl k) ?_
  show Goes p.tables e below (s₁.setTop (mkF m 1 #[.val (.ref oa)] [(.ref oa)])) _
  obtain ⟨T1, X1, e1, st1⟩ := initO X0 hx hZ hown (hw _ (List.mem_of_getElem? (i := 13) rfl)) (hw _ (List.mem_of_getElem? (i := 14) rfl)) (hw _ (List.mem_of_getElem? (i := 15) rfl)) e0 (g := (mkF m 1 #[.val (.ref oa)] [(.ref oa)])) rfl (by rw [hml]; rfl) rfl (hb hby d2_1) (by decide) (W := 0) (by show 2 * 0 + _ ≤ _; exact Nat.le_of_eq rfl) (by decide)
  refine Goes.by st1 ?_
  show Goes p.tables e below (T1.setTop (mkF m 4 #[.val (.ref oa)] [])) _
  obtain ⟨fs, hr, hrun, hended, hW, hsame⟩ := X1.leave (v := none) (fun _ => rfl)
  refine ⟨_, _, X1.returnOut hx Bd.returns (hb hby d2_4) hr, hrun, hended, _, _, rfl, ?_, ⟨_, rfl⟩, hW, hsame.mono (by decide) (by decide)⟩
  show Q2 Z oa h0 n0 _ T1.heap _
  rw [e1]
  exact ⟨rfl, N0, rfl⟩
theorem d1_0 : decode prog_9_method_1_code 0 = .ok (.aload_n 0, 1) := by decide +kernel
theorem d1_1 : decode prog_9_method_1_code 1 = .ok (.invokespecial 1, 3) := by decide +kernel
theorem pd_0 : parseMethodDescriptor "()V" = some ⟨[], none⟩ := by decide +kernel
theorem d1_4 : decode prog_9_method_1_code 4 = .ok (.iload_n 1, 1) := by decide +kernel
theorem d1_5 : decode prog_9_method_1_code 5 = .ok (.ifCond .lt 29, 3) := by decide +kernel
theorem d1_8 : decode prog_9_method_1_code 8 = .ok (.iload_n 1, 1) := by decide +kernel
theorem d1_9 : decode prog_9_method_1_code 9 = .ok (.ldc 7, 2) := by decide +kernel
theorem d1_11 : decode prog_9_method_1_code 11 = .ok (.if_icmp .gt 23, 3) := by decide +kernel
theorem d1_14 : decode prog_9_method_1_code 14 = .ok (.iload_n 2, 1) := by decide +kernel
theorem d1_15 : decode prog_9_method_1_code 15 = .ok (.ifCond .lt 19, 3) := by decide +kernel
theorem d1_18 : decode prog_9_method_1_code 18 = .ok (.iload_n 2, 1) := by decide +kernel
theorem d1_19 : decode prog_9_method_1_code 19 = .ok (.ldc 8, 2) := by decide +kernel
theorem d1_21 : decode prog_9_method_1_code 21 = .ok (.if_icmp .gt 13, 3) := by decide +kernel
theorem d1_24 : decode prog_9_method_1_code 24 = .ok (.iload_n 3, 1) := by decide +kernel
theorem d1_25 : decode prog_9_method_1_code 25 = .ok (.ifCond .lt 9, 3) := by decide +kernel
theorem d1_28 : decode prog_9_method_1_code 28 = .ok (.iload_n 3, 1) := by decide +kernel
theorem d1_29 : decode prog_9_method_1_code 29 = .ok (.ldc 8, 2) := by decide +kernel
theorem d1_31 : decode prog_9_method_1_code 31 = .ok (.if_icmp .le 13, 3) := by decide +kernel
theorem d1_44 : decode prog_9_method_1_code 44 = .ok (.aload_n 0, 1) := by decide +kernel
theorem d1_45 : decode prog_9_method_1_code 45 = .ok (.iload_n 1, 1) := by decide +kernel
theorem d1_46 : decode prog_9_method_1_code 46 = .ok (.putfield 16, 3) := by decide +kernel
theorem d1_49 : decode prog_9_method_1_code 49 = .ok (.aload_n 0, 1) := by decide +kernel
theorem d1_50 : decode prog_9_method_1_code 50 = .ok (.iload_n 2, 1) := by decide +kernel
theorem d1_51 : decode prog_9_method_1_code 51 = .ok (.putfield 22, 3) := by decide +kernel
theorem d1_54 : decode prog_9_method_1_code 54 = .ok (.aload_n 0, 1) := by decide +kernel
theorem d1_55 : decode prog_9_method_1_code 55 = .ok (.iload_n 3, 1) := by decide +kernel
theorem d1_56 : decode prog_9_method_1_code 56 = .ok (.putfield 25, 3) := by decide +kernel
theorem d1_59 : decode prog_9_method_1_code 59 = .ok (.return_, 1) := by decide +kernel
theorem pn_1 : plainName "castkey/card/KeyId" = true := by first | (simp [plainName, overriddenIn]; done) | decide +kernel
theorem ef1 (m : MethodId) (oa : Addr) (pd : Int32) (pg : Int32) (pn : Int32) : entryFrame m #[(.ref oa), (.int pd), (.int pg), (.int pn)] 4 = mkF m 0 #[.val (.ref oa), .val (.int pd), .val (.int pg), .val (.int pn)] [] := by first | (simp [entryFrame, mkF, argsToLocals, Value.category]; done) | rfl
def Q1 (Z : State) (oa : Addr) (pd : Int32) (pg : Int32) (pn : Int32) (h0 : Heap) (n0 : Nat) (v : Option Value) (h : Heap) (L : List Loc) : Prop := v = none ∧ Fr n0 L ∧ Keep h0 h [oa] ∧ Exa Z h oa "castkey/card/KeyId" ∧ Fld Z h oa "castkey/card/KeyId" "keyDomainId" "I" (.int pd) ∧ Fld Z h oa "castkey/card/KeyId" "keyGroup" "I" (.int pg) ∧ Fld Z h oa "castkey/card/KeyId" "keyNumber" "I" (.int pn)
set_option maxRecDepth 65536 in
set_option maxHeartbeats 40000000 in
theorem rm1 (l : Launch) (Z : State) (a0 : Array Value) (hw : ∀ d ∈ tables_1, d.before a0 Z = true) (ws : List Jvm.Cond) (oa : Addr) (pd : Int32) (pg : Int32) (pn : Int32) (h0 : Heap) (n0 : Nat) (Z0 : n0 ≤ h0.size) (E_oa : Exa Z h0 oa "castkey/card/KeyId") (F_oa_keyDomainId : Fld Z h0 oa "castkey/card/KeyId" "keyDomainId" "I" (.int (0 : Int32))) (F_oa_keyGroup : Fld Z h0 oa "castkey/card/KeyId" "keyGroup" "I" (.int (0 : Int32))) (F_oa_keyNumber : Fld Z h0 oa "castkey/card/KeyId" "keyNumber" "I" (.int (0 : Int32))) (g_oa : n0 ≤ oa) (hd0 : ¬ (pd < (0 : Int32))) (hd1 : ¬ ((16777215 : Int32) < pd)) (hg0 : ¬ (pg < (0 : Int32))) (hg1 : ¬ ((65535 : Int32) < pg)) (hn0 : ¬ (pn < (0 : Int32))) (hn1 : ¬ ((65535 : Int32) < pn)) :
    MetFree l (⟨"castkey/card/KeyId", "<init>", "(III)V"⟩ : MethodName) (head1 (Jvm.Cond.code (⟨"castkey/card/KeyId", "<init>", "(III)V"⟩ : MethodName) prog_9_method_1_code 4 none :: ws) ({ frames := 2, cells := 0, slots := 0, locals := 24 } : Room)) (fun a U => a = #[(.ref oa), (.int pd), (.int pg), (.int pn)] ∧ Z.Warmed39 U.vm ∧ U.heap = h0) (fun _ _ _ _ _ => True) (fun _ U o U' => ∃ v L, o = .returned v ∧ Q1 Z oa pd pg pn h0 n0 v U'.heap L ∧ FrameEnd U o U' L ({ frames := 2, cells := 0, slots := 0, locals := 24 } : Room).cells ({ frames := 2, cells := 0, slots := 0, locals := 24 } : Room).slots) := by
  refine MetFree.of_bodySF (plainFor_of_name pn_1) hisR ?_
  intro p e s m args below meth c s₁ Bd hml0 hP hK
  obtain ⟨rfl, hZ, hh⟩ := hP
  have hx := Bd.exec
  have hby := Bd.bytes
  have hml : c.maxLocals = 4 := hml0
  have hown : s.vm.findClass "castkey/card/KeyId" = some m.cls := findClass_of_methodNamed Bd.named
  have hnm := (name_of_methodNamed Bd.named Bd.method).1
  have X0 : Stand p l e ({ frames := 2, cells := 0, slots := 0, locals := 24 } : Room) s m #[(.ref oa), (.int pd), (.int pg), (.int pn)] below meth c s₁ [] 0 0 := Stand.of_body Bd
  have e0 : s₁.heap = h0 := by rw [← hh, Bd.state]; rfl
  have N0 := Fr.nil n0
  refine Goes.by (fun _ k => castTop (ef1 m oa pd pg pn) k) ?_
  show Goes p.tables e below (s₁.setTop (mkF m 0 #[.val (.ref oa), .val (.int pd), .val (.int pg), .val (.int pn)] [])) _
  refine Goes.by (fun _ k => XS.aloadN X0.here hx rfl (hb hby d1_0) rfl rfl k) ?_
  show Goes p.tables e below (s₁.setTop (mkF m 1 #[.val (.ref oa), .val (.int pd), .val (.int pg), .val (.int pn)] [(.ref oa)])) _
  obtain ⟨_, _, ⟨T1, L1, k1, n1⟩, -, X1, ⟨Lc1, hQ1, l1, y1, z1⟩, st1⟩ := X0.specialBack hx (y := (⟨"java/lang/Record", "<init>", "()V"⟩ : MethodName)) rfl hown (mvT hZ (hw _ (List.mem_of_getElem? (i := 8) rfl))) (mvT hZ (hw _ (List.mem_of_getElem? (i := 9) rfl))) (mvT hZ (hw _ (List.mem_of_getElem? (i := 12) rfl))) (by decide) (backOf (W := 0) (rm2 l Z a0 hw [] oa h0 n0 Z0) hZ (hw _ (List.mem_of_getElem? (i := 12) rfl)) (hw _ (List.mem_of_getElem? (i := 11) rfl)) (by decide) (by decide)) (g := (mkF m 1 #[.val (.ref oa), .val (.int pd), .val (.int pg), .val (.int pn)] [(.ref oa)])) rfl (by rw [hml]; rfl) (Steps.refl _) (a := oa) (argsL := []) (rest := []) (lenOf pd_0 rfl) rfl (by show 2 * 0 + _ ≤ _; exact Nat.le_of_eq rfl) (hb hby d1_1) (fun _ _ => ⟨rfl, e0, (by decide : 0 + 0 ≤ _), (by decide : 0 + 0 ≤ _)⟩)
  dsimp only [Pt.U, Pt.locs, Pt.cells, Pt.slots] at X1 l1 y1 z1 st1 hQ1
  subst l1 y1 z1
  obtain ⟨rfl, N1q, e1⟩ := hQ1
  have N1 := Fr.app N0 N1q
  refine Goes.via st1 ?_
  show Goes p.tables e below (T1.setTop (mkF m 4 #[.val (.ref oa), .val (.int pd), .val (.int pg), .val (.int pn)] [])) _
  refine Goes.by (fun _ k => XS.iloadN X1.here hx rfl (hb hby d1_4) rfl k) ?_
  show Goes p.tables e below (T1.setTop (mkF m 5 #[.val (.ref oa), .val (.int pd), .val (.int pg), .val (.int pn)] [(.int pd)])) _
  refine Goes.by (fun _ k => XS.ifNo X1.here hx rfl (hb hby d1_5) rfl ((if0 _ _).trans (flt (hd0 : ¬ (pd < (0 : Int32)))).1) k) ?_
  show Goes p.tables e below (T1.setTop (mkF m 8 #[.val (.ref oa), .val (.int pd), .val (.int pg), .val (.int pn)] [])) _
  refine Goes.by (fun _ k => XS.iloadN X1.here hx rfl (hb hby d1_8) rfl k) ?_
  show Goes p.tables e below (T1.setTop (mkF m 9 #[.val (.ref oa), .val (.int pd), .val (.int pg), .val (.int pn)] [(.int pd)])) _
  refine Goes.by (fun _ k => X1.ldcI hx hown (mvT hZ (hw _ (List.mem_of_getElem? (i := 16) rfl))) (g := (mkF m 9 #[.val (.ref oa), .val (.int pd), .val (.int pg), .val (.int pn)] [(.int pd)])) rfl (hb hby d1_9) k) ?_
  show Goes p.tables e below (T1.setTop (mkF m 11 #[.val (.ref oa), .val (.int pd), .val (.int pg), .val (.int pn)] [(.int (16777215 : Int32)), (.int pd)])) _
  refine Goes.by (fun _ k => XS.icmpNo X1.here hx rfl (hb hby d1_11) rfl (flt (hd1 : ¬ ((16777215 : Int32) < pd))).2.2.1 k) ?_
  show Goes p.tables e below (T1.setTop (mkF m 14 #[.val (.ref oa), .val (.int pd), .val (.int pg), .val (.int pn)] [])) _
  refine Goes.by (fun _ k => XS.iloadN X1.here hx rfl (hb hby d1_14) rfl k) ?_
  show Goes p.tables e below (T1.setTop (mkF m 15 #[.val (.ref oa), .val (.int pd), .val (.int pg), .val (.int pn)] [(.int pg)])) _
  refine Goes.by (fun _ k => XS.ifNo X1.here hx rfl (hb hby d1_15) rfl ((if0 _ _).trans (flt (hg0 : ¬ (pg < (0 : Int32)))).1) k) ?_
  show Goes p.tables e below (T1.setTop (mkF m 18 #[.val (.ref oa), .val (.int pd), .val (.int pg), .val (.int pn)] [])) _
  refine Goes.by (fun _ k => XS.iloadN X1.here hx rfl (hb hby d1_18) rfl k) ?_
  show Goes p.tables e below (T1.setTop (mkF m 19 #[.val (.ref oa), .val (.int pd), .val (.int pg), .val (.int pn)] [(.int pg)])) _
  refine Goes.by (fun _ k => X1.ldcI hx hown (mvT hZ (hw _ (List.mem_of_getElem? (i := 17) rfl))) (g := (mkF m 19 #[.val (.ref oa), .val (.int pd), .val (.int pg), .val (.int pn)] [(.int pg)])) rfl (hb hby d1_19) k) ?_
  show Goes p.tables e below (T1.setTop (mkF m 21 #[.val (.ref oa), .val (.int pd), .val (.int pg), .val (.int pn)] [(.int (65535 : Int32)), (.int pg)])) _
  refine Goes.by (fun _ k => XS.icmpNo X1.here hx rfl (hb hby d1_21) rfl (flt (hg1 : ¬ ((65535 : Int32) < pg))).2.2.1 k) ?_
  show Goes p.tables e below (T1.setTop (mkF m 24 #[.val (.ref oa), .val (.int pd), .val (.int pg), .val (.int pn)] [])) _
  refine Goes.by (fun _ k => XS.iloadN X1.here hx rfl (hb hby d1_24) rfl k) ?_
  show Goes p.tables e below (T1.setTop (mkF m 25 #[.val (.ref oa), .val (.int pd), .val (.int pg), .val (.int pn)] [(.int pn)])) _
  refine Goes.by (fun _ k => XS.ifNo X1.here hx rfl (hb hby d1_25) rfl ((if0 _ _).trans (flt (hn0 : ¬ (pn < (0 : Int32)))).1) k) ?_
  show Goes p.tables e below (T1.setTop (mkF m 28 #[.val (.ref oa), .val (.int pd), .val (.int pg), .val (.int pn)] [])) _
  refine Goes.by (fun _ k => XS.iloadN X1.here hx rfl (hb hby d1_28) rfl k) ?_
  show Goes p.tables e below (T1.setTop (mkF m 29 #[.val (.ref oa), .val (.int pd), .val (.int pg), .val (.int pn)] [(.int pn)])) _
  refine Goes.by (fun _ k => X1.ldcI hx hown (mvT hZ (hw _ (List.mem_of_getElem? (i := 17) rfl))) (g := (mkF m 29 #[.val (.ref oa), .val (.int pd), .val (.int pg), .val (.int pn)] [(.int pn)])) rfl (hb hby d1_29) k) ?_
  show Goes p.tables e below (T1.setTop (mkF m 31 #[.val (.ref oa), .val (.int pd), .val (.int pg), .val (.int pn)] [(.int (65535 : Int32)), (.int pn)])) _
  refine Goes.by (fun _ k => XS.icmpYes X1.here hx rfl (pc0 := 31) (pc' := 44) rfl (hb hby d1_31) rfl (flt (hn1 : ¬ ((65535 : Int32) < pn))).2.2.2 (by decide) (by decide) k) ?_
  show Goes p.tables e below (T1.setTop (mkF m 44 #[.val (.ref oa), .val (.int pd), .val (.int pg), .val (.int pn)] [])) _
  refine Goes.by (fun _ k => XS.aloadN X1.here hx rfl (hb hby d1_44) rfl rfl k) ?_
  show Goes p.tables e below (T1.setTop (mkF m 45 #[.val (.ref oa), .val (.int pd), .val (.int pg), .val (.int pn)] [(.ref oa)])) _
  refine Goes.by (fun _ k => XS.iloadN X1.here hx rfl (hb hby d1_45) rfl k) ?_
  show Goes p.tables e below (T1.setTop (mkF m 46 #[.val (.ref oa), .val (.int pd), .val (.int pg), .val (.int pn)] [(.int pd), (.ref oa)])) _
  obtain ⟨T2, h2, X2, e2, W2, st2⟩ := putF X1 hx hZ hown (host := "") (Or.inl (hw _ (List.mem_of_getElem? (i := 18) rfl))) Via.refl e1 F_oa_keyDomainId E_oa (Or.inr ⟨(hw _ (List.mem_of_getElem? (i := 19) rfl)), rfl, hnm⟩) (hw _ (List.mem_of_getElem? (i := 3) rfl)) (ty := .int) (by decide) rfl rfl (g := (mkF m 46 #[.val (.ref oa), .val (.int pd), .val (.int pg), .val (.int pn)] [(.int pd), (.ref oa)])) rfl rfl (hb hby d1_46)
  refine Goes.by st2 ?_
  have F_oa_keyDomainId : Fld Z h2 oa "castkey/card/KeyId" "keyDomainId" "I" (.int pd) := F_oa_keyDomainId.same W2
  have N2 := Fr.snoc X2 N1 g_oa
  have Zs2 : n0 ≤ h2.size := Nat.le_trans Z0 (Keep.of_wr W2).1
  have K2 : Keep h0 h2 [oa] := (Keep.refl h0 [oa]).wr W2 (Or.inl (List.mem_of_getElem? (i := 0) rfl))
  have E_oa : Exa Z h2 oa "castkey/card/KeyId" := E_oa.wr W2
  have F_oa_keyGroup : Fld Z h2 oa "castkey/card/KeyId" "keyGroup" "I" (.int (0 : Int32)) := F_oa_keyGroup.other W2 (Or.inr (slot_ne (Or.inr (hw _ (List.mem_of_getElem? (i := 21) rfl))) (Or.inr (hw _ (List.mem_of_getElem? (i := 19) rfl))) (by decide) (t := .int) (t' := .int) (by decide) (by decide)))
  have F_oa_keyNumber : Fld Z h2 oa "castkey/card/KeyId" "keyNumber" "I" (.int (0 : Int32)) := F_oa_keyNumber.other W2 (Or.inr (slot_ne (Or.inr (hw _ (List.mem_of_getElem? (i := 23) rfl))) (Or.inr (hw _ (List.mem_of_getElem? (i := 19) rfl))) (by decide) (t := .int) (t' := .int) (by decide) (by decide)))
  show Goes p.tables e below (T2.setTop (mkF m 49 #[.val (.ref oa), .val (.int pd), .val (.int pg), .val (.int pn)] [])) _
  refine Goes.by (fun _ k => XS.aloadN X2.here hx rfl (hb hby d1_49) rfl rfl k) ?_
  show Goes p.tables e below (T2.setTop (mkF m 50 #[.val (.ref oa), .val (.int pd), .val (.int pg), .val (.int pn)] [(.ref oa)])) _
  refine Goes.by (fun _ k => XS.iloadN X2.here hx rfl (hb hby d1_50) rfl k) ?_
  show Goes p.tables e below (T2.setTop (mkF m 51 #[.val (.ref oa), .val (.int pd), .val (.int pg), .val (.int pn)] [(.int pg), (.ref oa)])) _
  obtain ⟨T3, h3, X3, e3, W3, st3⟩ := putF X2 hx hZ hown (host := "") (Or.inl (hw _ (List.mem_of_getElem? (i := 20) rfl))) Via.refl e2 F_oa_keyGroup E_oa (Or.inr ⟨(hw _ (List.mem_of_getElem? (i := 21) rfl)), rfl, hnm⟩) (hw _ (List.mem_of_getElem? (i := 3) rfl)) (ty := .int) (by decide) rfl rfl (g := (mkF m 51 #[.val (.ref oa), .val (.int pd), .val (.int pg), .val (.int pn)] [(.int pg), (.ref oa)])) rfl rfl (hb hby d1_51)
  refine Goes.by st3 ?_
  have F_oa_keyGroup : Fld Z h3 oa "castkey/card/KeyId" "keyGroup" "I" (.int pg) := F_oa_keyGroup.same W3
  have N3 := Fr.snoc X3 N2 g_oa
  have Zs3 : n0 ≤ h3.size := Nat.le_trans Zs2 (Keep.of_wr W3).1
  have K3 : Keep h0 h3 [oa] := K2.wr W3 (Or.inl (List.mem_of_getElem? (i := 0) rfl))
  have E_oa : Exa Z h3 oa "castkey/card/KeyId" := E_oa.wr W3
  have F_oa_keyDomainId : Fld Z h3 oa "castkey/card/KeyId" "keyDomainId" "I" (.int pd) := F_oa_keyDomainId.other W3 (Or.inr (slot_ne (Or.inr (hw _ (List.mem_of_getElem? (i := 19) rfl))) (Or.inr (hw _ (List.mem_of_getElem? (i := 21) rfl))) (by decide) (t := .int) (t' := .int) (by decide) (by decide)))
  have F_oa_keyNumber : Fld Z h3 oa "castkey/card/KeyId" "keyNumber" "I" (.int (0 : Int32)) := F_oa_keyNumber.other W3 (Or.inr (slot_ne (Or.inr (hw _ (List.mem_of_getElem? (i := 23) rfl))) (Or.inr (hw _ (List.mem_of_getElem? (i := 21) rfl))) (by decide) (t := .int) (t' := .int) (by decide) (by decide)))
  show Goes p.tables e below (T3.setTop (mkF m 54 #[.val (.ref oa), .val (.int pd), .val (.int pg), .val (.int pn)] [])) _
  refine Goes.by (fun _ k => XS.aloadN X3.here hx rfl (hb hby d1_54) rfl rfl k) ?_
  show Goes p.tables e below (T3.setTop (mkF m 55 #[.val (.ref oa), .val (.int pd), .val (.int pg), .val (.int pn)] [(.ref oa)])) _
  refine Goes.by (fun _ k => XS.iloadN X3.here hx rfl (hb hby d1_55) rfl k) ?_
  show Goes p.tables e below (T3.setTop (mkF m 56 #[.val (.ref oa), .val (.int pd), .val (.int pg), .val (.int pn)] [(.int pn), (.ref oa)])) _
  obtain ⟨T4, h4, X4, e4, W4, st4⟩ := putF X3 hx hZ hown (host := "") (Or.inl (hw _ (List.mem_of_getElem? (i := 22) rfl))) Via.refl e3 F_oa_keyNumber E_oa (Or.inr ⟨(hw _ (List.mem_of_getElem? (i := 23) rfl)), rfl, hnm⟩) (hw _ (List.mem_of_getElem? (i := 3) rfl)) (ty := .int) (by decide) rfl rfl (g := (mkF m 56 #[.val (.ref oa), .val (.int pd), .val (.int pg), .val (.int pn)] [(.int pn), (.ref oa)])) rfl rfl (hb hby d1_56)
  refine Goes.by st4 ?_
  have F_oa_keyNumber : Fld Z h4 oa "castkey/card/KeyId" "keyNumber" "I" (.int pn) := F_oa_keyNumber.same W4
  have N4 := Fr.snoc X4 N3 g_oa
  have Zs4 : n0 ≤ h4.size := Nat.le_trans Zs3 (Keep.of_wr W4).1
  have K4 : Keep h0 h4 [oa] := K3.wr W4 (Or.inl (List.mem_of_getElem? (i := 0) rfl))
  have E_oa : Exa Z h4 oa "castkey/card/KeyId" := E_oa.wr W4
  have F_oa_keyDomainId : Fld Z h4 oa "castkey/card/KeyId" "keyDomainId" "I" (.int pd) := F_oa_keyDomainId.other W4 (Or.inr (slot_ne (Or.inr (hw _ (List.mem_of_getElem? (i := 19) rfl))) (Or.inr (hw _ (List.mem_of_getElem? (i := 23) rfl))) (by decide) (t := .int) (t' := .int) (by decide) (by decide)))
  have F_oa_keyGroup : Fld Z h4 oa "castkey/card/KeyId" "keyGroup" "I" (.int pg) := F_oa_keyGroup.other W4 (Or.inr (slot_ne (Or.inr (hw _ (List.mem_of_getElem? (i := 21) rfl))) (Or.inr (hw _ (List.mem_of_getElem? (i := 23) rfl))) (by decide) (t := .int) (t' := .int) (by decide) (by decide)))
  show Goes p.tables e below (T4.setTop (mkF m 59 #[.val (.ref oa), .val (.int pd), .val (.int pg), .val (.int pn)] [])) _
  obtain ⟨fs, hr, hrun, hended, hW, hsame⟩ := X4.leave (v := none) (fun _ => rfl)
  refine ⟨_, _, X4.returnOut hx Bd.returns (hb hby d1_59) hr, hrun, hended, _, _, rfl, ?_, ⟨_, rfl⟩, hW, hsame.mono (by decide) (by decide)⟩
  show Q1 Z oa pd pg pn h0 n0 _ T4.heap _
  rw [e4]
  exact ⟨rfl, N4, K4, E_oa, F_oa_keyDomainId, F_oa_keyGroup, F_oa_keyNumber⟩
theorem d6_0 : decode prog_19_method_1_code 0 = .ok (.aload_n 0, 1) := by decide +kernel
theorem d6_1 : decode prog_19_method_1_code 1 = .ok (.invokespecial 1, 3) := by decide +kernel
theorem d6_4 : decode prog_19_method_1_code 4 = .ok (.aload_n 0, 1) := by decide +kernel
theorem d6_5 : decode prog_19_method_1_code 5 = .ok (.iload_n 1, 1) := by decide +kernel
theorem d6_6 : decode prog_19_method_1_code 6 = .ok (.putfield 7, 3) := by decide +kernel
theorem d6_9 : decode prog_19_method_1_code 9 = .ok (.aload_n 0, 1) := by decide +kernel
theorem d6_10 : decode prog_19_method_1_code 10 = .ok (.iload_n 2, 1) := by decide +kernel
theorem d6_11 : decode prog_19_method_1_code 11 = .ok (.putfield 13, 3) := by decide +kernel
theorem d6_14 : decode prog_19_method_1_code 14 = .ok (.return_, 1) := by decide +kernel
theorem pn_2 : plainName "castkey/card/MskId" = true := by first | (simp [plainName, overriddenIn]; done) | decide +kernel
theorem ef6 (m : MethodId) (oa : Addr) (pg : Int32) (pn : Int32) : entryFrame m #[(.ref oa), (.int pg), (.int pn)] 3 = mkF m 0 #[.val (.ref oa), .val (.int pg), .val (.int pn)] [] := by first | (simp [entryFrame, mkF, argsToLocals, Value.category]; done) | rfl
def Q6 (Z : State) (oa : Addr) (pg : Int32) (pn : Int32) (h0 : Heap) (n0 : Nat) (v : Option Value) (h : Heap) (L : List Loc) : Prop := v = none ∧ Fr n0 L ∧ Keep h0 h [oa] ∧ Exa Z h oa "castkey/card/MskId" ∧ Fld Z h oa "castkey/card/MskId" "keyGroup" "I" (.int pg) ∧ Fld Z h oa "castkey/card/MskId" "keyNumber" "I" (.int pn)
set_option maxRecDepth 65536 in
set_option maxHeartbeats 40000000 in
theorem rm6 (l : Launch) (Z : State) (a0 : Array Value) (hw : ∀ d ∈ tables_1, d.before a0 Z = true) (ws : List Jvm.Cond) (oa : Addr) (pg : Int32) (pn : Int32) (h0 : Heap) (n0 : Nat) (Z0 : n0 ≤ h0.size) (E_oa : Exa Z h0 oa "castkey/card/MskId") (F_oa_keyGroup : Fld Z h0 oa "castkey/card/MskId" "keyGroup" "I" (.int (0 : Int32))) (F_oa_keyNumber : Fld Z h0 oa "castkey/card/MskId" "keyNumber" "I" (.int (0 : Int32))) (g_oa : n0 ≤ oa) :
    MetFree l (⟨"castkey/card/MskId", "<init>", "(II)V"⟩ : MethodName) (head1 (Jvm.Cond.code (⟨"castkey/card/MskId", "<init>", "(II)V"⟩ : MethodName) prog_19_method_1_code 3 none :: ws) ({ frames := 2, cells := 0, slots := 0, locals := 24 } : Room)) (fun a U => a = #[(.ref oa), (.int pg), (.int pn)] ∧ Z.Warmed39 U.vm ∧ U.heap = h0) (fun _ _ _ _ _ => True) (fun _ U o U' => ∃ v L, o = .returned v ∧ Q6 Z oa pg pn h0 n0 v U'.heap L ∧ FrameEnd U o U' L ({ frames := 2, cells := 0, slots := 0, locals := 24 } : Room).cells ({ frames := 2, cells := 0, slots := 0, locals := 24 } : Room).slots) := by
  refine MetFree.of_bodySF (plainFor_of_name pn_2) hisR ?_
  intro p e s m args below meth c s₁ Bd hml0 hP hK
  obtain ⟨rfl, hZ, hh⟩ := hP
  have hx := Bd.exec
  have hby := Bd.bytes
  have hml : c.maxLocals = 3 := hml0
  have hown : s.vm.findClass "castkey/card/MskId" = some m.cls := findClass_of_methodNamed Bd.named
  have hnm := (name_of_methodNamed Bd.named Bd.method).1
  have X0 : Stand p l e ({ frames := 2, cells := 0, slots := 0, locals := 24 } : Room) s m #[(.ref oa), (.int pg), (.int pn)] below meth c s₁ [] 0 0 := Stand.of_body Bd
  have e0 : s₁.heap = h0 := by rw [← hh, Bd.state]; rfl
  have N0 := Fr.nil n0
  refine Goes.by (fun _ k => castTop (ef6 m oa pg pn) k) ?_
  show Goes p.tables e below (s₁.setTop (mkF m 0 #[.val (.ref oa), .val (.int pg), .val (.int pn)] [])) _
  refine Goes.by (fun _ k => XS.aloadN X0.here hx rfl (hb hby d6_0) rfl rfl k) ?_
  show Goes p.tables e below (s₁.setTop (mkF m 1 #[.val (.ref oa), .val (.int pg), .val (.int pn)] [(.ref oa)])) _
  obtain ⟨_, _, ⟨T1, L1, k1, n1⟩, -, X1, ⟨Lc1, hQ1, l1, y1, z1⟩, st1⟩ := X0.specialBack hx (y := (⟨"java/lang/Record", "<init>", "()V"⟩ : MethodName)) rfl hown (mvT hZ (hw _ (List.mem_of_getElem? (i := 47) rfl))) (mvT hZ (hw _ (List.mem_of_getElem? (i := 9) rfl))) (mvT hZ (hw _ (List.mem_of_getElem? (i := 12) rfl))) (by decide) (backOf (W := 0) (rm2 l Z a0 hw [] oa h0 n0 Z0) hZ (hw _ (List.mem_of_getElem? (i := 12) rfl)) (hw _ (List.mem_of_getElem? (i := 11) rfl)) (by decide) (by decide)) (g := (mkF m 1 #[.val (.ref oa), .val (.int pg), .val (.int pn)] [(.ref oa)])) rfl (by rw [hml]; rfl) (Steps.refl _) (a := oa) (argsL := []) (rest := []) (lenOf pd_0 rfl) rfl (by show 2 * 0 + _ ≤ _; exact Nat.le_of_eq rfl) (hb hby d6_1) (fun _ _ => ⟨rfl, e0, (by decide : 0 + 0 ≤ _), (by decide : 0 + 0 ≤ _)⟩)
  dsimp only [Pt.U, Pt.locs, Pt.cells, Pt.slots] at X1 l1 y1 z1 st1 hQ1
  subst l1 y1 z1
  obtain ⟨rfl, N1q, e1⟩ := hQ1
  have N1 := Fr.app N0 N1q
  refine Goes.via st1 ?_
  show Goes p.tables e below (T1.setTop (mkF m 4 #[.val (.ref oa), .val (.int pg), .val (.int pn)] [])) _
  refine Goes.by (fun _ k => XS.aloadN X1.here hx rfl (hb hby d6_4) rfl rfl k) ?_
  show Goes p.tables e below (T1.setTop (mkF m 5 #[.val (.ref oa), .val (.int pg), .val (.int pn)] [(.ref oa)])) _
  refine Goes.by (fun _ k => XS.iloadN X1.here hx rfl (hb hby d6_5) rfl k) ?_
  show Goes p.tables e below (T1.setTop (mkF m 6 #[.val (.ref oa), .val (.int pg), .val (.int pn)] [(.int pg), (.ref oa)])) _
  obtain ⟨T2, h2, X2, e2, W2, st2⟩ := putF X1 hx hZ hown (host := "") (Or.inl (hw _ (List.mem_of_getElem? (i := 48) rfl))) Via.refl e1 F_oa_keyGroup E_oa (Or.inr ⟨(hw _ (List.mem_of_getElem? (i := 49) rfl)), rfl, hnm⟩) (hw _ (List.mem_of_getElem? (i := 42) rfl)) (ty := .int) (by decide) rfl rfl (g := (mkF m 6 #[.val (.ref oa), .val (.int pg), .val (.int pn)] [(.int pg), (.ref oa)])) rfl rfl (hb hby d6_6)
  refine Goes.by st2 ?_
  have F_oa_keyGroup : Fld Z h2 oa "castkey/card/MskId" "keyGroup" "I" (.int pg) := F_oa_keyGroup.same W2
  have N2 := Fr.snoc X2 N1 g_oa
  have Zs2 : n0 ≤ h2.size := Nat.le_trans Z0 (Keep.of_wr W2).1
  have K2 : Keep h0 h2 [oa] := (Keep.refl h0 [oa]).wr W2 (Or.inl (List.mem_of_getElem? (i := 0) rfl))
  have E_oa : Exa Z h2 oa "castkey/card/MskId" := E_oa.wr W2
  have F_oa_keyNumber : Fld Z h2 oa "castkey/card/MskId" "keyNumber" "I" (.int (0 : Int32)) := F_oa_keyNumber.other W2 (Or.inr (slot_ne (Or.inr (hw _ (List.mem_of_getElem? (i := 51) rfl))) (Or.inr (hw _ (List.mem_of_getElem? (i := 49) rfl))) (by decide) (t := .int) (t' := .int) (by decide) (by decide)))
  show Goes p.tables e below (T2.setTop (mkF m 9 #[.val (.ref oa), .val (.int pg), .val (.int pn)] [])) _
  refine Goes.by (fun _ k => XS.aloadN X2.here hx rfl (hb hby d6_9) rfl rfl k) ?_
  show Goes p.tables e below (T2.setTop (mkF m 10 #[.val (.ref oa), .val (.int pg), .val (.int pn)] [(.ref oa)])) _
  refine Goes.by (fun _ k => XS.iloadN X2.here hx rfl (hb hby d6_10) rfl k) ?_
  show Goes p.tables e below (T2.setTop (mkF m 11 #[.val (.ref oa), .val (.int pg), .val (.int pn)] [(.int pn), (.ref oa)])) _
  obtain ⟨T3, h3, X3, e3, W3, st3⟩ := putF X2 hx hZ hown (host := "") (Or.inl (hw _ (List.mem_of_getElem? (i := 50) rfl))) Via.refl e2 F_oa_keyNumber E_oa (Or.inr ⟨(hw _ (List.mem_of_getElem? (i := 51) rfl)), rfl, hnm⟩) (hw _ (List.mem_of_getElem? (i := 42) rfl)) (ty := .int) (by decide) rfl rfl (g := (mkF m 11 #[.val (.ref oa), .val (.int pg), .val (.int pn)] [(.int pn), (.ref oa)])) rfl rfl (hb hby d6_11)
  refine Goes.by st3 ?_
  have F_oa_keyNumber : Fld Z h3 oa "castkey/card/MskId" "keyNumber" "I" (.int pn) := F_oa_keyNumber.same W3
  have N3 := Fr.snoc X3 N2 g_oa
  have Zs3 : n0 ≤ h3.size := Nat.le_trans Zs2 (Keep.of_wr W3).1
  have K3 : Keep h0 h3 [oa] := K2.wr W3 (Or.inl (List.mem_of_getElem? (i := 0) rfl))
  have E_oa : Exa Z h3 oa "castkey/card/MskId" := E_oa.wr W3
  have F_oa_keyGroup : Fld Z h3 oa "castkey/card/MskId" "keyGroup" "I" (.int pg) := F_oa_keyGroup.other W3 (Or.inr (slot_ne (Or.inr (hw _ (List.mem_of_getElem? (i := 49) rfl))) (Or.inr (hw _ (List.mem_of_getElem? (i := 51) rfl))) (by decide) (t := .int) (t' := .int) (by decide) (by decide)))
  show Goes p.tables e below (T3.setTop (mkF m 14 #[.val (.ref oa), .val (.int pg), .val (.int pn)] [])) _
  obtain ⟨fs, hr, hrun, hended, hW, hsame⟩ := X3.leave (v := none) (fun _ => rfl)
  refine ⟨_, _, X3.returnOut hx Bd.returns (hb hby d6_14) hr, hrun, hended, _, _, rfl, ?_, ⟨_, rfl⟩, hW, hsame.mono (by decide) (by decide)⟩
  show Q6 Z oa pg pn h0 n0 _ T3.heap _
  rw [e3]
  exact ⟨rfl, N3, K3, E_oa, F_oa_keyGroup, F_oa_keyNumber⟩
theorem d4_0 : decode prog_9_method_3_code 0 = .ok (.aload_n 1, 1) := by decide +kernel
theorem d4_1 : decode prog_9_method_3_code 1 = .ok (.instanceof 17, 3) := by decide +kernel
theorem d4_4 : decode prog_9_method_3_code 4 = .ok (.ifCond .eq 45, 3) := by decide +kernel
theorem d4_7 : decode prog_9_method_3_code 7 = .ok (.aload_n 1, 1) := by decide +kernel
theorem d4_8 : decode prog_9_method_3_code 8 = .ok (.checkcast 17, 3) := by decide +kernel
theorem d4_11 : decode prog_9_method_3_code 11 = .ok (.astore_n 2, 1) := by decide +kernel
theorem d4_12 : decode prog_9_method_3_code 12 = .ok (.aload_n 2, 1) := by decide +kernel
theorem d4_13 : decode prog_9_method_3_code 13 = .ok (.getfield 16, 3) := by decide +kernel
theorem d4_16 : decode prog_9_method_3_code 16 = .ok (.aload_n 0, 1) := by decide +kernel
theorem d4_17 : decode prog_9_method_3_code 17 = .ok (.getfield 16, 3) := by decide +kernel
theorem d4_20 : decode prog_9_method_3_code 20 = .ok (.if_icmp .ne 29, 3) := by decide +kernel
theorem d4_23 : decode prog_9_method_3_code 23 = .ok (.aload_n 2, 1) := by decide +kernel
theorem d4_24 : decode prog_9_method_3_code 24 = .ok (.getfield 22, 3) := by decide +kernel
theorem d4_27 : decode prog_9_method_3_code 27 = .ok (.aload_n 0, 1) := by decide +kernel
theorem d4_28 : decode prog_9_method_3_code 28 = .ok (.getfield 22, 3) := by decide +kernel
theorem d4_31 : decode prog_9_method_3_code 31 = .ok (.if_icmp .ne 18, 3) := by decide +kernel
theorem d4_34 : decode prog_9_method_3_code 34 = .ok (.aload_n 2, 1) := by decide +kernel
theorem d4_35 : decode prog_9_method_3_code 35 = .ok (.getfield 25, 3) := by decide +kernel
theorem d4_38 : decode prog_9_method_3_code 38 = .ok (.aload_n 0, 1) := by decide +kernel
theorem d4_39 : decode prog_9_method_3_code 39 = .ok (.getfield 25, 3) := by decide +kernel
theorem d4_42 : decode prog_9_method_3_code 42 = .ok (.if_icmp .ne 7, 3) := by decide +kernel
theorem d4_45 : decode prog_9_method_3_code 45 = .ok (.iconst 1, 1) := by decide +kernel
theorem d4_46 : decode prog_9_method_3_code 46 = .ok (.goto 4, 3) := by decide +kernel
theorem d4_50 : decode prog_9_method_3_code 50 = .ok (.ireturn, 1) := by decide +kernel
theorem d4_49 : decode prog_9_method_3_code 49 = .ok (.iconst 0, 1) := by decide +kernel
def fn4 (ua0 : Int32) (ua1 : Int32) (ua2 : Int32) (ub0 : Int32) (ub1 : Int32) (ub2 : Int32) : Int32 := (if ub0 = ua0 then (if ub1 = ua1 then (if ub2 = ua2 then (1 : Int32) else (0 : Int32)) else (0 : Int32)) else (0 : Int32))
theorem ef4 (m : MethodId) (oa : Addr) (ob : Addr) : entryFrame m #[(.ref oa), (.ref ob)] 3 = mkF m 0 #[.val (.ref oa), .val (.ref ob), .unset] [] := by first | (simp [entryFrame, mkF, argsToLocals, Value.category]; done) | rfl
def Q4 (Z : State) (oa : Addr) (ob : Addr) (ua0 : Int32) (ua1 : Int32) (ua2 : Int32) (ub0 : Int32) (ub1 : Int32) (ub2 : Int32) (h0 : Heap) (n0 : Nat) (v : Option Value) (h : Heap) (L : List Loc) : Prop := v = some (.int (fn4 ua0 ua1 ua2 ub0 ub1 ub2)) ∧ Fr n0 L ∧ h = h0
set_option maxRecDepth 65536 in
set_option maxHeartbeats 40000000 in
theorem rm4 (l : Launch) (Z : State) (a0 : Array Value) (hw : ∀ d ∈ tables_1, d.before a0 Z = true) (ws : List Jvm.Cond) (oa : Addr) (ob : Addr) (ua0 : Int32) (ua1 : Int32) (ua2 : Int32) (ub0 : Int32) (ub1 : Int32) (ub2 : Int32) (h0 : Heap) (n0 : Nat) (Z0 : n0 ≤ h0.size) (F_oa_keyDomainId : Fld Z h0 oa "castkey/card/KeyId" "keyDomainId" "I" (.int ua0)) (F_oa_keyGroup : Fld Z h0 oa "castkey/card/KeyId" "keyGroup" "I" (.int ua1)) (F_oa_keyNumber : Fld Z h0 oa "castkey/card/KeyId" "keyNumber" "I" (.int ua2)) (F_ob_keyDomainId : Fld Z h0 ob "castkey/card/KeyId" "keyDomainId" "I" (.int ub0)) (F_ob_keyGroup : Fld Z h0 ob "castkey/card/KeyId" "keyGroup" "I" (.int ub1)) (F_ob_keyNumber : Fld Z h0 ob "castkey/card/KeyId" "keyNumber" "I" (.int ub2)) (E_ob : Exa Z h0 ob "castkey/card/KeyId") :
    MetFree l (⟨"castkey/card/KeyId", "equals", "(Ljava/lang/Object;)Z"⟩ : MethodName) (head1 (Jvm.Cond.code (⟨"castkey/card/KeyId", "equals", "(Ljava/lang/Object;)Z"⟩ : MethodName) prog_9_method_3_code 3 (some .boolean) :: ws) ({ frames := 0, cells := 0, slots := 0, locals := 0 } : Room)) (fun a U => a = #[(.ref oa), (.ref ob)] ∧ Z.Warmed39 U.vm ∧ U.heap = h0) (fun _ _ _ _ _ => True) (fun _ U o U' => ∃ v L, o = .returned v ∧ Q4 Z oa ob ua0 ua1 ua2 ub0 ub1 ub2 h0 n0 v U'.heap L ∧ FrameEnd U o U' L ({ frames := 0, cells := 0, slots := 0, locals := 0 } : Room).cells ({ frames := 0, cells := 0, slots := 0, locals := 0 } : Room).slots) := by
  refine MetFree.of_bodySF (plainFor_of_name pn_1) hisR ?_
  intro p e s m args below meth c s₁ Bd hml0 hP hK
  obtain ⟨rfl, hZ, hh⟩ := hP
  have hx := Bd.exec
  have hby := Bd.bytes
  have hml : c.maxLocals = 3 := hml0
  have hown : s.vm.findClass "castkey/card/KeyId" = some m.cls := findClass_of_methodNamed Bd.named
  have hnm := (name_of_methodNamed Bd.named Bd.method).1
  have X0 : Stand p l e ({ frames := 0, cells := 0, slots := 0, locals := 0 } : Room) s m #[(.ref oa), (.ref ob)] below meth c s₁ [] 0 0 := Stand.of_body Bd
  have e0 : s₁.heap = h0 := by rw [← hh, Bd.state]; rfl
  have N0 := Fr.nil n0
  refine Goes.by (fun _ k => castTop (ef4 m oa ob) k) ?_
  show Goes p.tables e below (s₁.setTop (mkF m 0 #[.val (.ref oa), .val (.ref ob), .unset] [])) _
  refine Goes.by (fun _ k => XS.aloadN X0.here hx rfl (hb hby d4_0) rfl rfl k) ?_
  show Goes p.tables e below (s₁.setTop (mkF m 1 #[.val (.ref oa), .val (.ref ob), .unset] [(.ref ob)])) _
  obtain ⟨T1, X1, e1, st1⟩ := instY X0 hx hZ hown (hw _ (List.mem_of_getElem? (i := 29) rfl)) e0 (Ins.self E_ob) (g := (mkF m 1 #[.val (.ref oa), .val (.ref ob), .unset] [(.ref ob)])) rfl rfl (hb hby d4_1)
  refine Goes.by st1 ?_
  show Goes p.tables e below (T1.setTop (mkF m 4 #[.val (.ref oa), .val (.ref ob), .unset] [(.int (1 : Int32))])) _
  refine Goes.by (fun _ k => XS.ifNo X1.here hx rfl (hb hby d4_4) rfl ((if0 _ _).trans (feq (by decide : ¬ ((1 : Int32) = (0 : Int32)))).1) k) ?_
  show Goes p.tables e below (T1.setTop (mkF m 7 #[.val (.ref oa), .val (.ref ob), .unset] [])) _
  refine Goes.by (fun _ k => XS.aloadN X1.here hx rfl (hb hby d4_7) rfl rfl k) ?_
  show Goes p.tables e below (T1.setTop (mkF m 8 #[.val (.ref oa), .val (.ref ob), .unset] [(.ref ob)])) _
  obtain ⟨T2, X2, e2, st2⟩ := castY X1 hx hZ hown (hw _ (List.mem_of_getElem? (i := 29) rfl)) e1 (Ins.self E_ob) (g := (mkF m 8 #[.val (.ref oa), .val (.ref ob), .unset] [(.ref ob)])) rfl rfl (hb hby d4_8)
  refine Goes.by st2 ?_
  show Goes p.tables e below (T2.setTop (mkF m 11 #[.val (.ref oa), .val (.ref ob), .unset] [(.ref ob)])) _
  refine Goes.by (fun _ k => XS.astoreN X2.here hx rfl (hb hby d4_11) rfl rfl (l' := #[.val (.ref oa), .val (.ref ob), .val (.ref ob)]) rfl k) ?_
  show Goes p.tables e below (T2.setTop (mkF m 12 #[.val (.ref oa), .val (.ref ob), .val (.ref ob)] [])) _
  refine Goes.by (fun _ k => XS.aloadN X2.here hx rfl (hb hby d4_12) rfl rfl k) ?_
  show Goes p.tables e below (T2.setTop (mkF m 13 #[.val (.ref oa), .val (.ref ob), .val (.ref ob)] [(.ref ob)])) _
  obtain ⟨T3, X3, e3, st3⟩ := getF X2 hx hZ hown (host := "") (Or.inl (hw _ (List.mem_of_getElem? (i := 18) rfl))) Via.refl e2 F_ob_keyDomainId (g := (mkF m 13 #[.val (.ref oa), .val (.ref ob), .val (.ref ob)] [(.ref ob)])) rfl rfl (hb hby d4_13)
  refine Goes.by st3 ?_
  show Goes p.tables e below (T3.setTop (mkF m 16 #[.val (.ref oa), .val (.ref ob), .val (.ref ob)] [(.int ub0)])) _
  refine Goes.by (fun _ k => XS.aloadN X3.here hx rfl (hb hby d4_16) rfl rfl k) ?_
  show Goes p.tables e below (T3.setTop (mkF m 17 #[.val (.ref oa), .val (.ref ob), .val (.ref ob)] [(.ref oa), (.int ub0)])) _
  obtain ⟨T4, X4, e4, st4⟩ := getF X3 hx hZ hown (host := "") (Or.inl (hw _ (List.mem_of_getElem? (i := 18) rfl))) Via.refl e3 F_oa_keyDomainId (g := (mkF m 17 #[.val (.ref oa), .val (.ref ob), .val (.ref ob)] [(.ref oa), (.int ub0)])) rfl rfl (hb hby d4_17)
  refine Goes.by st4 ?_
  show Goes p.tables e below (T4.setTop (mkF m 20 #[.val (.ref oa), .val (.ref ob), .val (.ref ob)] [(.int ua0), (.int ub0)])) _
  by_cases hc5 : ub0 = ua0
  · refine Goes.by (fun _ k => XS.icmpNo X4.here hx rfl (hb hby d4_20) rfl (teq hc5).2 k) ?_
    show Goes p.tables e below (T4.setTop (mkF m 23 #[.val (.ref oa), .val (.ref ob), .val (.ref ob)] [])) _
    refine Goes.by (fun _ k => XS.aloadN X4.here hx rfl (hb hby d4_23) rfl rfl k) ?_
    show Goes p.tables e below (T4.setTop (mkF m 24 #[.val (.ref oa), .val (.ref ob), .val (.ref ob)] [(.ref ob)])) _
    obtain ⟨T6, X6, e6, st6⟩ := getF X4 hx hZ hown (host := "") (Or.inl (hw _ (List.mem_of_getElem? (i := 20) rfl))) Via.refl e4 F_ob_keyGroup (g := (mkF m 24 #[.val (.ref oa), .val (.ref ob), .val (.ref ob)] [(.ref ob)])) rfl rfl (hb hby d4_24)
    refine Goes.by st6 ?_
    show Goes p.tables e below (T6.setTop (mkF m 27 #[.val (.ref oa), .val (.ref ob), .val (.ref ob)] [(.int ub1)])) _
    refine Goes.by (fun _ k => XS.aloadN X6.here hx rfl (hb hby d4_27) rfl rfl k) ?_
    show Goes p.tables e below (T6.setTop (mkF m 28 #[.val (.ref oa), .val (.ref ob), .val (.ref ob)] [(.ref oa), (.int ub1)])) _
    obtain ⟨T7, X7, e7, st7⟩ := getF X6 hx hZ hown (host := "") (Or.inl (hw _ (List.mem_of_getElem? (i := 20) rfl))) Via.refl e6 F_oa_keyGroup (g := (mkF m 28 #[.val (.ref oa), .val (.ref ob), .val (.ref ob)] [(.ref oa), (.int ub1)])) rfl rfl (hb hby d4_28)
    refine Goes.by st7 ?_
    show Goes p.tables e below (T7.setTop (mkF m 31 #[.val (.ref oa), .val (.ref ob), .val (.ref ob)] [(.int ua1), (.int ub1)])) _
    by_cases hc8 : ub1 = ua1
    · refine Goes.by (fun _ k => XS.icmpNo X7.here hx rfl (hb hby d4_31) rfl (teq hc8).2 k) ?_
      show Goes p.tables e below (T7.setTop (mkF m 34 #[.val (.ref oa), .val (.ref ob), .val (.ref ob)] [])) _
      refine Goes.by (fun _ k => XS.aloadN X7.here hx rfl (hb hby d4_34) rfl rfl k) ?_
      show Goes p.tables e below (T7.setTop (mkF m 35 #[.val (.ref oa), .val (.ref ob), .val (.ref ob)] [(.ref ob)])) _
      obtain ⟨T9, X9, e9, st9⟩ := getF X7 hx hZ hown (host := "") (Or.inl (hw _ (List.mem_of_getElem? (i := 22) rfl))) Via.refl e7 F_ob_keyNumber (g := (mkF m 35 #[.val (.ref oa), .val (.ref ob), .val (.ref ob)] [(.ref ob)])) rfl rfl (hb hby d4_35)
      refine Goes.by st9 ?_
      show Goes p.tables e below (T9.setTop (mkF m 38 #[.val (.ref oa), .val (.ref ob), .val (.ref ob)] [(.int ub2)])) _
      refine Goes.by (fun _ k => XS.aloadN X9.here hx rfl (hb hby d4_38) rfl rfl k) ?_
      show Goes p.tables e below (T9.setTop (mkF m 39 #[.val (.ref oa), .val (.ref ob), .val (.ref ob)] [(.ref oa), (.int ub2)])) _
      obtain ⟨T10, X10, e10, st10⟩ := getF X9 hx hZ hown (host := "") (Or.inl (hw _ (List.mem_of_getElem? (i := 22) rfl))) Via.refl e9 F_oa_keyNumber (g := (mkF m 39 #[.val (.ref oa), .val (.ref ob), .val (.ref ob)] [(.ref oa), (.int ub2)])) rfl rfl (hb hby d4_39)
      refine Goes.by st10 ?_
      show Goes p.tables e below (T10.setTop (mkF m 42 #[.val (.ref oa), .val (.ref ob), .val (.ref ob)] [(.int ua2), (.int ub2)])) _
      by_cases hc11 : ub2 = ua2
      · refine Goes.by (fun _ k => XS.icmpNo X10.here hx rfl (hb hby d4_42) rfl (teq hc11).2 k) ?_
        show Goes p.tables e below (T10.setTop (mkF m 45 #[.val (.ref oa), .val (.ref ob), .val (.ref ob)] [])) _
        refine Goes.by (fun _ k => XS.iconst X10.here hx rfl (hb hby d4_45) k) ?_
        show Goes p.tables e below (T10.setTop (mkF m 46 #[.val (.ref oa), .val (.ref ob), .val (.ref ob)] [(.int (1 : Int32))])) _
        refine Goes.by (fun _ k => XS.goto X10.here hx rfl (pc0 := 46) (pc' := 50) rfl (hb hby d4_46) (by decide) (by decide) k) ?_
        show Goes p.tables e below (T10.setTop (mkF m 50 #[.val (.ref oa), .val (.ref ob), .val (.ref ob)] [(.int (1 : Int32))])) _
        obtain ⟨fs, hr, hrun, hended, hW, hsame⟩ := X10.leave (v := some (.int (1 : Int32))) (fun h => by rw [Bd.returns] at h; cases h)
        refine ⟨_, _, retN X10 hx (t := .boolean) Bd.returns (by simp) (hb hby d4_50) hr, hrun, hended, _, _, rfl, ?_, ⟨_, rfl⟩, hW, hsame.mono (by decide) (by decide)⟩
        show Q4 Z oa ob ua0 ua1 ua2 ub0 ub1 ub2 h0 n0 _ T10.heap _
        rw [e10]
        exact ⟨(by rw [fn4, if_pos hc5, if_pos hc8, if_pos hc11]), N0, rfl⟩
      · refine Goes.by (fun _ k => XS.icmpYes X10.here hx rfl (pc0 := 42) (pc' := 49) rfl (hb hby d4_42) rfl (feq hc11).2 (by decide) (by decide) k) ?_
        show Goes p.tables e below (T10.setTop (mkF m 49 #[.val (.ref oa), .val (.ref ob), .val (.ref ob)] [])) _
        refine Goes.by (fun _ k => XS.iconst X10.here hx rfl (hb hby d4_49) k) ?_
        show Goes p.tables e below (T10.setTop (mkF m 50 #[.val (.ref oa), .val (.ref ob), .val (.ref ob)] [(.int (0 : Int32))])) _
        obtain ⟨fs, hr, hrun, hended, hW, hsame⟩ := X10.leave (v := some (.int (0 : Int32))) (fun h => by rw [Bd.returns] at h; cases h)
        refine ⟨_, _, retN X10 hx (t := .boolean) Bd.returns (by simp) (hb hby d4_50) hr, hrun, hended, _, _, rfl, ?_, ⟨_, rfl⟩, hW, hsame.mono (by decide) (by decide)⟩
        show Q4 Z oa ob ua0 ua1 ua2 ub0 ub1 ub2 h0 n0 _ T10.heap _
        rw [e10]
        exact ⟨(by rw [fn4, if_pos hc5, if_pos hc8, if_neg hc11]), N0, rfl⟩
    · refine Goes.by (fun _ k => XS.icmpYes X7.here hx rfl (pc0 := 31) (pc' := 49) rfl (hb hby d4_31) rfl (feq hc8).2 (by decide) (by decide) k) ?_
      show Goes p.tables e below (T7.setTop (mkF m 49 #[.val (.ref oa), .val (.ref ob), .val (.ref ob)] [])) _
      refine Goes.by (fun _ k => XS.iconst X7.here hx rfl (hb hby d4_49) k) ?_
      show Goes p.tables e below (T7.setTop (mkF m 50 #[.val (.ref oa), .val (.ref ob), .val (.ref ob)] [(.int (0 : Int32))])) _
      obtain ⟨fs, hr, hrun, hended, hW, hsame⟩ := X7.leave (v := some (.int (0 : Int32))) (fun h => by rw [Bd.returns] at h; cases h)
      refine ⟨_, _, retN X7 hx (t := .boolean) Bd.returns (by simp) (hb hby d4_50) hr, hrun, hended, _, _, rfl, ?_, ⟨_, rfl⟩, hW, hsame.mono (by decide) (by decide)⟩
      show Q4 Z oa ob ua0 ua1 ua2 ub0 ub1 ub2 h0 n0 _ T7.heap _
      rw [e7]
      exact ⟨(by rw [fn4, if_pos hc5, if_neg hc8]), N0, rfl⟩
  · refine Goes.by (fun _ k => XS.icmpYes X4.here hx rfl (pc0 := 20) (pc' := 49) rfl (hb hby d4_20) rfl (feq hc5).2 (by decide) (by decide) k) ?_
    show Goes p.tables e below (T4.setTop (mkF m 49 #[.val (.ref oa), .val (.ref ob), .val (.ref ob)] [])) _
    refine Goes.by (fun _ k => XS.iconst X4.here hx rfl (hb hby d4_49) k) ?_
    show Goes p.tables e below (T4.setTop (mkF m 50 #[.val (.ref oa), .val (.ref ob), .val (.ref ob)] [(.int (0 : Int32))])) _
    obtain ⟨fs, hr, hrun, hended, hW, hsame⟩ := X4.leave (v := some (.int (0 : Int32))) (fun h => by rw [Bd.returns] at h; cases h)
    refine ⟨_, _, retN X4 hx (t := .boolean) Bd.returns (by simp) (hb hby d4_50) hr, hrun, hended, _, _, rfl, ?_, ⟨_, rfl⟩, hW, hsame.mono (by decide) (by decide)⟩
    show Q4 Z oa ob ua0 ua1 ua2 ub0 ub1 ub2 h0 n0 _ T4.heap _
    rw [e4]
    exact ⟨(by rw [fn4, if_neg hc5]), N0, rfl⟩
theorem ef4n (m : MethodId) (oa : Addr) : entryFrame m #[(.ref oa), .null] 3 = mkF m 0 #[.val (.ref oa), .val .null, .unset] [] := by first | (simp [entryFrame, mkF, argsToLocals, Value.category]; done) | rfl
def Q4n (Z : State) (oa : Addr) (h0 : Heap) (n0 : Nat) (v : Option Value) (h : Heap) (L : List Loc) : Prop := v = some (.int (0 : Int32)) ∧ Fr n0 L ∧ h = h0
set_option maxRecDepth 65536 in
set_option maxHeartbeats 40000000 in
theorem rm4n (l : Launch) (Z : State) (a0 : Array Value) (hw : ∀ d ∈ tables_1, d.before a0 Z = true) (ws : List Jvm.Cond) (oa : Addr) (h0 : Heap) (n0 : Nat) (Z0 : n0 ≤ h0.size) :
    MetFree l (⟨"castkey/card/KeyId", "equals", "(Ljava/lang/Object;)Z"⟩ : MethodName) (head1 (Jvm.Cond.code (⟨"castkey/card/KeyId", "equals", "(Ljava/lang/Object;)Z"⟩ : MethodName) prog_9_method_3_code 3 (some .boolean) :: ws) ({ frames := 0, cells := 0, slots := 0, locals := 0 } : Room)) (fun a U => a = #[(.ref oa), .null] ∧ Z.Warmed39 U.vm ∧ U.heap = h0) (fun _ _ _ _ _ => True) (fun _ U o U' => ∃ v L, o = .returned v ∧ Q4n Z oa h0 n0 v U'.heap L ∧ FrameEnd U o U' L ({ frames := 0, cells := 0, slots := 0, locals := 0 } : Room).cells ({ frames := 0, cells := 0, slots := 0, locals := 0 } : Room).slots) := by
  refine MetFree.of_bodySF (plainFor_of_name pn_1) hisR ?_
  intro p e s m args below meth c s₁ Bd hml0 hP hK
  obtain ⟨rfl, hZ, hh⟩ := hP
  have hx := Bd.exec
  have hby := Bd.bytes
  have hml : c.maxLocals = 3 := hml0
  have hown : s.vm.findClass "castkey/card/KeyId" = some m.cls := findClass_of_methodNamed Bd.named
  have hnm := (name_of_methodNamed Bd.named Bd.method).1
  have X0 : Stand p l e ({ frames := 0, cells := 0, slots := 0, locals := 0 } : Room) s m #[(.ref oa), .null] below meth c s₁ [] 0 0 := Stand.of_body Bd
  have e0 : s₁.heap = h0 := by rw [← hh, Bd.state]; rfl
  have N0 := Fr.nil n0
  refine Goes.by (fun _ k => castTop (ef4n m oa) k) ?_
  show Goes p.tables e below (s₁.setTop (mkF m 0 #[.val (.ref oa), .val .null, .unset] [])) _
  refine Goes.by (fun _ k => XS.aloadN X0.here hx rfl (hb hby d4_0) rfl rfl k) ?_
  show Goes p.tables e below (s₁.setTop (mkF m 1 #[.val (.ref oa), .val .null, .unset] [.null])) _
  refine Goes.by (fun _ k => X0.instanceofNull hx (g := (mkF m 1 #[.val (.ref oa), .val .null, .unset] [.null])) rfl rfl (hb hby d4_1) _ k) ?_
  show Goes p.tables e below (s₁.setTop (mkF m 4 #[.val (.ref oa), .val .null, .unset] [(.int (0 : Int32))])) _
  refine Goes.by (fun _ k => XS.ifYes X0.here hx rfl (pc0 := 4) (pc' := 49) rfl (hb hby d4_4) rfl ((if0 _ _).trans (teq (by decide : (0 : Int32) = (0 : Int32))).1) (by decide) (by decide) k) ?_
  show Goes p.tables e below (s₁.setTop (mkF m 49 #[.val (.ref oa), .val .null, .unset] [])) _
  refine Goes.by (fun _ k => XS.iconst X0.here hx rfl (hb hby d4_49) k) ?_
  show Goes p.tables e below (s₁.setTop (mkF m 50 #[.val (.ref oa), .val .null, .unset] [(.int (0 : Int32))])) _
  obtain ⟨fs, hr, hrun, hended, hW, hsame⟩ := X0.leave (v := some (.int (0 : Int32))) (fun h => by rw [Bd.returns] at h; cases h)
  refine ⟨_, _, retN X0 hx (t := .boolean) Bd.returns (by simp) (hb hby d4_50) hr, hrun, hended, _, _, rfl, ?_, ⟨_, rfl⟩, hW, hsame.mono (by decide) (by decide)⟩
  show Q4n Z oa h0 n0 _ s₁.heap _
  rw [e0]
  exact ⟨rfl, N0, rfl⟩
theorem ef4i (m : MethodId) (oa : Addr) (ob : Addr) : entryFrame m #[(.ref oa), (.ref ob)] 3 = mkF m 0 #[.val (.ref oa), .val (.ref ob), .unset] [] := by first | (simp [entryFrame, mkF, argsToLocals, Value.category]; done) | rfl
def Q4i (Z : State) (oa : Addr) (ob : Addr) (h0 : Heap) (n0 : Nat) (v : Option Value) (h : Heap) (L : List Loc) : Prop := v = some (.int (0 : Int32)) ∧ Fr n0 L ∧ h = h0
set_option maxRecDepth 65536 in
set_option maxHeartbeats 40000000 in
theorem rm4i (l : Launch) (Z : State) (a0 : Array Value) (hw : ∀ d ∈ tables_1, d.before a0 Z = true) (ws : List Jvm.Cond) (oa : Addr) (ob : Addr) (h0 : Heap) (n0 : Nat) (Z0 : n0 ≤ h0.size) (E_ob : Exa Z h0 ob "java/lang/Integer") :
    MetFree l (⟨"castkey/card/KeyId", "equals", "(Ljava/lang/Object;)Z"⟩ : MethodName) (head1 (Jvm.Cond.code (⟨"castkey/card/KeyId", "equals", "(Ljava/lang/Object;)Z"⟩ : MethodName) prog_9_method_3_code 3 (some .boolean) :: ws) ({ frames := 0, cells := 0, slots := 0, locals := 0 } : Room)) (fun a U => a = #[(.ref oa), (.ref ob)] ∧ Z.Warmed39 U.vm ∧ U.heap = h0) (fun _ _ _ _ _ => True) (fun _ U o U' => ∃ v L, o = .returned v ∧ Q4i Z oa ob h0 n0 v U'.heap L ∧ FrameEnd U o U' L ({ frames := 0, cells := 0, slots := 0, locals := 0 } : Room).cells ({ frames := 0, cells := 0, slots := 0, locals := 0 } : Room).slots) := by
  refine MetFree.of_bodySF (plainFor_of_name pn_1) hisR ?_
  intro p e s m args below meth c s₁ Bd hml0 hP hK
  obtain ⟨rfl, hZ, hh⟩ := hP
  have hx := Bd.exec
  have hby := Bd.bytes
  have hml : c.maxLocals = 3 := hml0
  have hown : s.vm.findClass "castkey/card/KeyId" = some m.cls := findClass_of_methodNamed Bd.named
  have hnm := (name_of_methodNamed Bd.named Bd.method).1
  have X0 : Stand p l e ({ frames := 0, cells := 0, slots := 0, locals := 0 } : Room) s m #[(.ref oa), (.ref ob)] below meth c s₁ [] 0 0 := Stand.of_body Bd
  have e0 : s₁.heap = h0 := by rw [← hh, Bd.state]; rfl
  have N0 := Fr.nil n0
  refine Goes.by (fun _ k => castTop (ef4i m oa ob) k) ?_
  show Goes p.tables e below (s₁.setTop (mkF m 0 #[.val (.ref oa), .val (.ref ob), .unset] [])) _
  refine Goes.by (fun _ k => XS.aloadN X0.here hx rfl (hb hby d4_0) rfl rfl k) ?_
  show Goes p.tables e below (s₁.setTop (mkF m 1 #[.val (.ref oa), .val (.ref ob), .unset] [(.ref ob)])) _
  obtain ⟨T1, X1, e1, st1⟩ := instNo X0 hx hZ hown (hw _ (List.mem_of_getElem? (i := 29) rfl)) e0 E_ob (own_no (hw _ (List.mem_of_getElem? (i := 38) rfl)) (hw _ (List.mem_of_getElem? (i := 3) rfl)) (own_step (hw _ (List.mem_of_getElem? (i := 38) rfl)) (own_step (hw _ (List.mem_of_getElem? (i := 39) rfl)) (own_root (hw _ (List.mem_of_getElem? (i := 40) rfl)) (hw _ (List.mem_of_getElem? (i := 3) rfl)) (by decide)) (by decide)) (by decide)) (by decide)) (g := (mkF m 1 #[.val (.ref oa), .val (.ref ob), .unset] [(.ref ob)])) rfl rfl (hb hby d4_1)
  refine Goes.by st1 ?_
  show Goes p.tables e below (T1.setTop (mkF m 4 #[.val (.ref oa), .val (.ref ob), .unset] [(.int (0 : Int32))])) _
  refine Goes.by (fun _ k => XS.ifYes X1.here hx rfl (pc0 := 4) (pc' := 49) rfl (hb hby d4_4) rfl ((if0 _ _).trans (teq (by decide : (0 : Int32) = (0 : Int32))).1) (by decide) (by decide) k) ?_
  show Goes p.tables e below (T1.setTop (mkF m 49 #[.val (.ref oa), .val (.ref ob), .unset] [])) _
  refine Goes.by (fun _ k => XS.iconst X1.here hx rfl (hb hby d4_49) k) ?_
  show Goes p.tables e below (T1.setTop (mkF m 50 #[.val (.ref oa), .val (.ref ob), .unset] [(.int (0 : Int32))])) _
  obtain ⟨fs, hr, hrun, hended, hW, hsame⟩ := X1.leave (v := some (.int (0 : Int32))) (fun h => by rw [Bd.returns] at h; cases h)
  refine ⟨_, _, retN X1 hx (t := .boolean) Bd.returns (by simp) (hb hby d4_50) hr, hrun, hended, _, _, rfl, ?_, ⟨_, rfl⟩, hW, hsame.mono (by decide) (by decide)⟩
  show Q4i Z oa ob h0 n0 _ T1.heap _
  rw [e1]
  exact ⟨rfl, N0, rfl⟩
theorem ef4m (m : MethodId) (oa : Addr) (ob : Addr) : entryFrame m #[(.ref oa), (.ref ob)] 3 = mkF m 0 #[.val (.ref oa), .val (.ref ob), .unset] [] := by first | (simp [entryFrame, mkF, argsToLocals, Value.category]; done) | rfl
def Q4m (Z : State) (oa : Addr) (ob : Addr) (h0 : Heap) (n0 : Nat) (v : Option Value) (h : Heap) (L : List Loc) : Prop := v = some (.int (0 : Int32)) ∧ Fr n0 L ∧ h = h0
set_option maxRecDepth 65536 in
set_option maxHeartbeats 40000000 in
theorem rm4m (l : Launch) (Z : State) (a0 : Array Value) (hw : ∀ d ∈ tables_1, d.before a0 Z = true) (ws : List Jvm.Cond) (oa : Addr) (ob : Addr) (h0 : Heap) (n0 : Nat) (Z0 : n0 ≤ h0.size) (E_ob : Exa Z h0 ob "castkey/card/MskId") :
    MetFree l (⟨"castkey/card/KeyId", "equals", "(Ljava/lang/Object;)Z"⟩ : MethodName) (head1 (Jvm.Cond.code (⟨"castkey/card/KeyId", "equals", "(Ljava/lang/Object;)Z"⟩ : MethodName) prog_9_method_3_code 3 (some .boolean) :: ws) ({ frames := 0, cells := 0, slots := 0, locals := 0 } : Room)) (fun a U => a = #[(.ref oa), (.ref ob)] ∧ Z.Warmed39 U.vm ∧ U.heap = h0) (fun _ _ _ _ _ => True) (fun _ U o U' => ∃ v L, o = .returned v ∧ Q4m Z oa ob h0 n0 v U'.heap L ∧ FrameEnd U o U' L ({ frames := 0, cells := 0, slots := 0, locals := 0 } : Room).cells ({ frames := 0, cells := 0, slots := 0, locals := 0 } : Room).slots) := by
  refine MetFree.of_bodySF (plainFor_of_name pn_1) hisR ?_
  intro p e s m args below meth c s₁ Bd hml0 hP hK
  obtain ⟨rfl, hZ, hh⟩ := hP
  have hx := Bd.exec
  have hby := Bd.bytes
  have hml : c.maxLocals = 3 := hml0
  have hown : s.vm.findClass "castkey/card/KeyId" = some m.cls := findClass_of_methodNamed Bd.named
  have hnm := (name_of_methodNamed Bd.named Bd.method).1
  have X0 : Stand p l e ({ frames := 0, cells := 0, slots := 0, locals := 0 } : Room) s m #[(.ref oa), (.ref ob)] below meth c s₁ [] 0 0 := Stand.of_body Bd
  have e0 : s₁.heap = h0 := by rw [← hh, Bd.state]; rfl
  have N0 := Fr.nil n0
  refine Goes.by (fun _ k => castTop (ef4m m oa ob) k) ?_
  show Goes p.tables e below (s₁.setTop (mkF m 0 #[.val (.ref oa), .val (.ref ob), .unset] [])) _
  refine Goes.by (fun _ k => XS.aloadN X0.here hx rfl (hb hby d4_0) rfl rfl k) ?_
  show Goes p.tables e below (s₁.setTop (mkF m 1 #[.val (.ref oa), .val (.ref ob), .unset] [(.ref ob)])) _
  obtain ⟨T1, X1, e1, st1⟩ := instNo X0 hx hZ hown (hw _ (List.mem_of_getElem? (i := 29) rfl)) e0 E_ob (own_no (hw _ (List.mem_of_getElem? (i := 52) rfl)) (hw _ (List.mem_of_getElem? (i := 3) rfl)) (own_step (hw _ (List.mem_of_getElem? (i := 52) rfl)) (own_step (hw _ (List.mem_of_getElem? (i := 53) rfl)) (own_root (hw _ (List.mem_of_getElem? (i := 40) rfl)) (hw _ (List.mem_of_getElem? (i := 3) rfl)) (by decide)) (by decide)) (by decide)) (by decide)) (g := (mkF m 1 #[.val (.ref oa), .val (.ref ob), .unset] [(.ref ob)])) rfl rfl (hb hby d4_1)
  refine Goes.by st1 ?_
  show Goes p.tables e below (T1.setTop (mkF m 4 #[.val (.ref oa), .val (.ref ob), .unset] [(.int (0 : Int32))])) _
  refine Goes.by (fun _ k => XS.ifYes X1.here hx rfl (pc0 := 4) (pc' := 49) rfl (hb hby d4_4) rfl ((if0 _ _).trans (teq (by decide : (0 : Int32) = (0 : Int32))).1) (by decide) (by decide) k) ?_
  show Goes p.tables e below (T1.setTop (mkF m 49 #[.val (.ref oa), .val (.ref ob), .unset] [])) _
  refine Goes.by (fun _ k => XS.iconst X1.here hx rfl (hb hby d4_49) k) ?_
  show Goes p.tables e below (T1.setTop (mkF m 50 #[.val (.ref oa), .val (.ref ob), .unset] [(.int (0 : Int32))])) _
  obtain ⟨fs, hr, hrun, hended, hW, hsame⟩ := X1.leave (v := some (.int (0 : Int32))) (fun h => by rw [Bd.returns] at h; cases h)
  refine ⟨_, _, retN X1 hx (t := .boolean) Bd.returns (by simp) (hb hby d4_50) hr, hrun, hended, _, _, rfl, ?_, ⟨_, rfl⟩, hW, hsame.mono (by decide) (by decide)⟩
  show Q4m Z oa ob h0 n0 _ T1.heap _
  rw [e1]
  exact ⟨rfl, N0, rfl⟩
theorem d8_0 : decode jdk_18_method_1_code 0 = .ok (.aload_n 0, 1) := by decide +kernel
theorem d8_1 : decode jdk_18_method_1_code 1 = .ok (.invokespecial 1, 3) := by decide +kernel
theorem d8_4 : decode jdk_18_method_1_code 4 = .ok (.return_, 1) := by decide +kernel
theorem pn_3 : plainName "java/lang/Number" = true := by first | (simp [plainName, overriddenIn]; done) | decide +kernel
theorem ef8 (m : MethodId) (oa : Addr) : entryFrame m #[(.ref oa)] 1 = mkF m 0 #[.val (.ref oa)] [] := by first | (simp [entryFrame, mkF, argsToLocals, Value.category]; done) | rfl
def Q8 (Z : State) (oa : Addr) (h0 : Heap) (n0 : Nat) (v : Option Value) (h : Heap) (L : List Loc) : Prop := v = none ∧ Fr n0 L ∧ h = h0
set_option maxRecDepth 65536 in
set_option maxHeartbeats 40000000 in
theorem rm8 (l : Launch) (Z : State) (a0 : Array Value) (hw : ∀ d ∈ tables_1, d.before a0 Z = true) (ws : List Jvm.Cond) (oa : Addr) (h0 : Heap) (n0 : Nat) (Z0 : n0 ≤ h0.size) :
    MetFree l (⟨"java/lang/Number", "<init>", "()V"⟩ : MethodName) (head1 (Jvm.Cond.code (⟨"java/lang/Number", "<init>", "()V"⟩ : MethodName) jdk_18_method_1_code 1 none :: ws) ({ frames := 1, cells := 0, slots := 0, locals := 12 } : Room)) (fun a U => a = #[(.ref oa)] ∧ Z.Warmed39 U.vm ∧ U.heap = h0) (fun _ _ _ _ _ => True) (fun _ U o U' => ∃ v L, o = .returned v ∧ Q8 Z oa h0 n0 v U'.heap L ∧ FrameEnd U o U' L ({ frames := 1, cells := 0, slots := 0, locals := 12 } : Room).cells ({ frames := 1, cells := 0, slots := 0, locals := 12 } : Room).slots) := by
  refine MetFree.of_bodySF (plainFor_of_name pn_3) hisR ?_
  intro p e s m args below meth c s₁ Bd hml0 hP hK
  obtain ⟨rfl, hZ, hh⟩ := hP
  have hx := Bd.exec
  have hby := Bd.bytes
  have hml : c.maxLocals = 1 := hml0
  have hown : s.vm.findClass "java/lang/Number" = some m.cls := findClass_of_methodNamed Bd.named
  have hnm := (name_of_methodNamed Bd.named Bd.method).1
  have X0 : Stand p l e ({ frames := 1, cells := 0, slots := 0, locals := 12 } : Room) s m #[(.ref oa)] below meth c s₁ [] 0 0 := Stand.of_body Bd
  have e0 : s₁.heap = h0 := by rw [← hh, Bd.state]; rfl
  have N0 := Fr.nil n0
  refine Goes.by (fun _ k => castTop (ef8 m oa) k) ?_
  show Goes p.tables e below (s₁.setTop (mkF m 0 #[.val (.ref oa)] [])) _
  refine Goes.by (fun _ k => XS.aloadN X0.here hx rfl (hb hby d8_0) rfl rfl k) ?_
  show Goes p.tables e below (s₁.setTop (mkF m 1 #[.val (.ref oa)] [(.ref oa)])) _
  obtain ⟨T1, X1, e1, st1⟩ := initO X0 hx hZ hown (hw _ (List.mem_of_getElem? (i := 66) rfl)) (hw _ (List.mem_of_getElem? (i := 14) rfl)) (hw _ (List.mem_of_getElem? (i := 15) rfl)) e0 (g := (mkF m 1 #[.val (.ref oa)] [(.ref oa)])) rfl (by rw [hml]; rfl) rfl (hb hby d8_1) (by decide) (W := 0) (by show 2 * 0 + _ ≤ _; exact Nat.le_of_eq rfl) (by decide)
  refine Goes.by st1 ?_
  show Goes p.tables e below (T1.setTop (mkF m 4 #[.val (.ref oa)] [])) _
  obtain ⟨fs, hr, hrun, hended, hW, hsame⟩ := X1.leave (v := none) (fun _ => rfl)
  refine ⟨_, _, X1.returnOut hx Bd.returns (hb hby d8_4) hr, hrun, hended, _, _, rfl, ?_, ⟨_, rfl⟩, hW, hsame.mono (by decide) (by decide)⟩
  show Q8 Z oa h0 n0 _ T1.heap _
  rw [e1]
  exact ⟨rfl, N0, rfl⟩
theorem d7_0 : decode jdk_33_method_23_code 0 = .ok (.aload_n 0, 1) := by decide +kernel
theorem d7_1 : decode jdk_33_method_23_code 1 = .ok (.invokespecial 202, 3) := by decide +kernel
theorem d7_4 : decode jdk_33_method_23_code 4 = .ok (.aload_n 0, 1) := by decide +kernel
theorem d7_5 : decode jdk_33_method_23_code 5 = .ok (.iload_n 1, 1) := by decide +kernel
theorem d7_6 : decode jdk_33_method_23_code 6 = .ok (.putfield 205, 3) := by decide +kernel
theorem d7_9 : decode jdk_33_method_23_code 9 = .ok (.return_, 1) := by decide +kernel
theorem pn_4 : plainName "java/lang/Integer" = true := by first | (simp [plainName, overriddenIn]; done) | decide +kernel
theorem ef7 (m : MethodId) (oa : Addr) (pv : Int32) : entryFrame m #[(.ref oa), (.int pv)] 2 = mkF m 0 #[.val (.ref oa), .val (.int pv)] [] := by first | (simp [entryFrame, mkF, argsToLocals, Value.category]; done) | rfl
def Q7 (Z : State) (oa : Addr) (pv : Int32) (h0 : Heap) (n0 : Nat) (v : Option Value) (h : Heap) (L : List Loc) : Prop := v = none ∧ Fr n0 L ∧ Keep h0 h [oa] ∧ Exa Z h oa "java/lang/Integer" ∧ Fld Z h oa "java/lang/Integer" "value" "I" (.int pv)
set_option maxRecDepth 65536 in
set_option maxHeartbeats 40000000 in
theorem rm7 (l : Launch) (Z : State) (a0 : Array Value) (hw : ∀ d ∈ tables_1, d.before a0 Z = true) (ws : List Jvm.Cond) (oa : Addr) (pv : Int32) (h0 : Heap) (n0 : Nat) (Z0 : n0 ≤ h0.size) (E_oa : Exa Z h0 oa "java/lang/Integer") (F_oa_value : Fld Z h0 oa "java/lang/Integer" "value" "I" (.int (0 : Int32))) (g_oa : n0 ≤ oa) :
    MetFree l (⟨"java/lang/Integer", "<init>", "(I)V"⟩ : MethodName) (head1 (Jvm.Cond.code (⟨"java/lang/Integer", "<init>", "(I)V"⟩ : MethodName) jdk_33_method_23_code 2 none :: ws) ({ frames := 2, cells := 0, slots := 0, locals := 24 } : Room)) (fun a U => a = #[(.ref oa), (.int pv)] ∧ Z.Warmed39 U.vm ∧ U.heap = h0) (fun _ _ _ _ _ => True) (fun _ U o U' => ∃ v L, o = .returned v ∧ Q7 Z oa pv h0 n0 v U'.heap L ∧ FrameEnd U o U' L ({ frames := 2, cells := 0, slots := 0, locals := 24 } : Room).cells ({ frames := 2, cells := 0, slots := 0, locals := 24 } : Room).slots) := by
  refine MetFree.of_bodySF (plainFor_of_name pn_4) hisR ?_
  intro p e s m args below meth c s₁ Bd hml0 hP hK
  obtain ⟨rfl, hZ, hh⟩ := hP
  have hx := Bd.exec
  have hby := Bd.bytes
  have hml : c.maxLocals = 2 := hml0
  have hown : s.vm.findClass "java/lang/Integer" = some m.cls := findClass_of_methodNamed Bd.named
  have hnm := (name_of_methodNamed Bd.named Bd.method).1
  have X0 : Stand p l e ({ frames := 2, cells := 0, slots := 0, locals := 24 } : Room) s m #[(.ref oa), (.int pv)] below meth c s₁ [] 0 0 := Stand.of_body Bd
  have e0 : s₁.heap = h0 := by rw [← hh, Bd.state]; rfl
  have N0 := Fr.nil n0
  refine Goes.by (fun _ k => castTop (ef7 m oa pv) k) ?_
  show Goes p.tables e below (s₁.setTop (mkF m 0 #[.val (.ref oa), .val (.int pv)] [])) _
  refine Goes.by (fun _ k => XS.aloadN X0.here hx rfl (hb hby d7_0) rfl rfl k) ?_
  show Goes p.tables e below (s₁.setTop (mkF m 1 #[.val (.ref oa), .val (.int pv)] [(.ref oa)])) _
  obtain ⟨_, _, ⟨T1, L1, k1, n1⟩, -, X1, ⟨Lc1, hQ1, l1, y1, z1⟩, st1⟩ := X0.specialBack hx (y := (⟨"java/lang/Number", "<init>", "()V"⟩ : MethodName)) rfl hown (mvT hZ (hw _ (List.mem_of_getElem? (i := 60) rfl))) (mvT hZ (hw _ (List.mem_of_getElem? (i := 61) rfl))) (mvT hZ (hw _ (List.mem_of_getElem? (i := 65) rfl))) (by decide) (backOf (W := 0) (rm8 l Z a0 hw [] oa h0 n0 Z0) hZ (hw _ (List.mem_of_getElem? (i := 65) rfl)) (hw _ (List.mem_of_getElem? (i := 64) rfl)) (by decide) (by decide)) (g := (mkF m 1 #[.val (.ref oa), .val (.int pv)] [(.ref oa)])) rfl (by rw [hml]; rfl) (Steps.refl _) (a := oa) (argsL := []) (rest := []) (lenOf pd_0 rfl) rfl (by show 2 * 0 + _ ≤ _; exact Nat.le_of_eq rfl) (hb hby d7_1) (fun _ _ => ⟨rfl, e0, (by decide : 0 + 0 ≤ _), (by decide : 0 + 0 ≤ _)⟩)
  dsimp only [Pt.U, Pt.locs, Pt.cells, Pt.slots] at X1 l1 y1 z1 st1 hQ1
  subst l1 y1 z1
  obtain ⟨rfl, N1q, e1⟩ := hQ1
  have N1 := Fr.app N0 N1q
  refine Goes.via st1 ?_
  show Goes p.tables e below (T1.setTop (mkF m 4 #[.val (.ref oa), .val (.int pv)] [])) _
  refine Goes.by (fun _ k => XS.aloadN X1.here hx rfl (hb hby d7_4) rfl rfl k) ?_
  show Goes p.tables e below (T1.setTop (mkF m 5 #[.val (.ref oa), .val (.int pv)] [(.ref oa)])) _
  refine Goes.by (fun _ k => XS.iloadN X1.here hx rfl (hb hby d7_5) rfl k) ?_
  show Goes p.tables e below (T1.setTop (mkF m 6 #[.val (.ref oa), .val (.int pv)] [(.int pv), (.ref oa)])) _
  obtain ⟨T2, h2, X2, e2, W2, st2⟩ := putF X1 hx hZ hown (host := "") (Or.inl (hw _ (List.mem_of_getElem? (i := 67) rfl))) Via.refl e1 F_oa_value E_oa (Or.inr ⟨(hw _ (List.mem_of_getElem? (i := 68) rfl)), rfl, hnm⟩) (hw _ (List.mem_of_getElem? (i := 55) rfl)) (ty := .int) (by decide) rfl rfl (g := (mkF m 6 #[.val (.ref oa), .val (.int pv)] [(.int pv), (.ref oa)])) rfl rfl (hb hby d7_6)
  refine Goes.by st2 ?_
  have F_oa_value : Fld Z h2 oa "java/lang/Integer" "value" "I" (.int pv) := F_oa_value.same W2
  have N2 := Fr.snoc X2 N1 g_oa
  have Zs2 : n0 ≤ h2.size := Nat.le_trans Z0 (Keep.of_wr W2).1
  have K2 : Keep h0 h2 [oa] := (Keep.refl h0 [oa]).wr W2 (Or.inl (List.mem_of_getElem? (i := 0) rfl))
  have E_oa : Exa Z h2 oa "java/lang/Integer" := E_oa.wr W2
  show Goes p.tables e below (T2.setTop (mkF m 9 #[.val (.ref oa), .val (.int pv)] [])) _
  obtain ⟨fs, hr, hrun, hended, hW, hsame⟩ := X2.leave (v := none) (fun _ => rfl)
  refine ⟨_, _, X2.returnOut hx Bd.returns (hb hby d7_9) hr, hrun, hended, _, _, rfl, ?_, ⟨_, rfl⟩, hW, hsame.mono (by decide) (by decide)⟩
  show Q7 Z oa pv h0 n0 _ T2.heap _
  rw [e2]
  exact ⟨rfl, N2, K2, E_oa, F_oa_value⟩
theorem own_at128 (v : Int32) (h1 : ¬ v < (-128 : Int32)) (h2 : ¬ (127 : Int32) < v) : (v + (128 : Int32)).toInt = ((v.toInt + 128).toNat : Int) ∧ (v.toInt + 128).toNat < 256 := by
  rw [Int32.lt_iff_toInt_lt] at h1 h2
  have e1 : (-128 : Int32).toInt = -128 := rfl
  have e2 : (127 : Int32).toInt = 127 := rfl
  have e3 : (128 : Int32).toInt = 128 := rfl
  have h3 := c_iadd v 128
  have r := rng32 (v + 128)
  omega
theorem d5_0 : decode jdk_33_method_22_code 0 = .ok (.iload_n 0, 1) := by decide +kernel
theorem d5_1 : decode jdk_33_method_22_code 1 = .ok (.bipush (-128), 2) := by decide +kernel
theorem d5_3 : decode jdk_33_method_22_code 3 = .ok (.if_icmp .lt 20, 3) := by decide +kernel
theorem d5_23 : decode jdk_33_method_22_code 23 = .ok (.new 1, 3) := by decide +kernel
theorem d5_26 : decode jdk_33_method_22_code 26 = .ok (.dup, 1) := by decide +kernel
theorem d5_27 : decode jdk_33_method_22_code 27 = .ok (.iload_n 0, 1) := by decide +kernel
theorem d5_28 : decode jdk_33_method_22_code 28 = .ok (.invokespecial 199, 3) := by decide +kernel
theorem pd_1 : parseMethodDescriptor "(I)V" = some ⟨[.int], none⟩ := by decide +kernel
theorem d5_31 : decode jdk_33_method_22_code 31 = .ok (.areturn, 1) := by decide +kernel
theorem d5_6 : decode jdk_33_method_22_code 6 = .ok (.iload_n 0, 1) := by decide +kernel
theorem d5_7 : decode jdk_33_method_22_code 7 = .ok (.getstatic 191, 3) := by decide +kernel
theorem d5_10 : decode jdk_33_method_22_code 10 = .ok (.if_icmp .gt 13, 3) := by decide +kernel
theorem d5_13 : decode jdk_33_method_22_code 13 = .ok (.getstatic 195, 3) := by decide +kernel
theorem d5_16 : decode jdk_33_method_22_code 16 = .ok (.iload_n 0, 1) := by decide +kernel
theorem d5_17 : decode jdk_33_method_22_code 17 = .ok (.sipush 128, 3) := by decide +kernel
theorem d5_20 : decode jdk_33_method_22_code 20 = .ok (.iadd, 1) := by decide +kernel
theorem d5_21 : decode jdk_33_method_22_code 21 = .ok (.aaload, 1) := by decide +kernel
theorem d5_22 : decode jdk_33_method_22_code 22 = .ok (.areturn, 1) := by decide +kernel
theorem ef5 (m : MethodId) (pv : Int32) : entryFrame m #[(.int pv)] 1 = mkF m 0 #[.val (.int pv)] [] := by first | (simp [entryFrame, mkF, argsToLocals, Value.category]; done) | rfl
def Q5 (Z : State) (pv : Int32) (acac : Addr) (h0 : Heap) (n0 : Nat) (v : Option Value) (h : Heap) (L : List Loc) : Prop := ∃ ob : Addr, v = some (.ref ob) ∧ Fr n0 L ∧ Keep h0 h [] ∧ Exa Z h ob "java/lang/Integer"
set_option maxRecDepth 65536 in
set_option maxHeartbeats 40000000 in
theorem rm5 (l : Launch) (Z : State) (a0 : Array Value) (hw : ∀ d ∈ tables_1, d.before a0 Z = true) (ws : List Jvm.Cond) (pv : Int32) (acac : Addr) (h0 : Heap) (n0 : Nat) (Z0 : n0 ≤ h0.size) (O : Old Z n0 h0) (S_high : Sta Z Z.heap "java/lang/Integer$IntegerCache" "high" "I" (.int (127 : Int32))) (S_cache : Sta Z Z.heap "java/lang/Integer$IntegerCache" "cache" "[Ljava/lang/Integer;" (.ref acac)) (hcac : Cac Z acac) :
    MetFree l (⟨"java/lang/Integer", "valueOf", "(I)Ljava/lang/Integer;"⟩ : MethodName) (head1 (Jvm.Cond.code (⟨"java/lang/Integer", "valueOf", "(I)Ljava/lang/Integer;"⟩ : MethodName) jdk_33_method_22_code 1 (some (.object "java/lang/Integer")) :: ws) ({ frames := 3, cells := 1, slots := 1, locals := 38 } : Room)) (fun a U => a = #[(.int pv)] ∧ Z.Warmed39 U.vm ∧ U.heap = h0) (fun _ _ _ _ _ => True) (fun _ U o U' => ∃ v L, o = .returned v ∧ Q5 Z pv acac h0 n0 v U'.heap L ∧ FrameEnd U o U' L ({ frames := 3, cells := 1, slots := 1, locals := 38 } : Room).cells ({ frames := 3, cells := 1, slots := 1, locals := 38 } : Room).slots) := by
  refine MetFree.of_bodySF (plainFor_of_name pn_4) hisR ?_
  intro p e s m args below meth c s₁ Bd hml0 hP hK
  obtain ⟨rfl, hZ, hh⟩ := hP
  have hx := Bd.exec
  have hby := Bd.bytes
  have hml : c.maxLocals = 1 := hml0
  have hown : s.vm.findClass "java/lang/Integer" = some m.cls := findClass_of_methodNamed Bd.named
  have hnm := (name_of_methodNamed Bd.named Bd.method).1
  have X0 : Stand p l e ({ frames := 3, cells := 1, slots := 1, locals := 38 } : Room) s m #[(.int pv)] below meth c s₁ [] 0 0 := Stand.of_body Bd
  have e0 : s₁.heap = h0 := by rw [← hh, Bd.state]; rfl
  have N0 := Fr.nil n0
  refine Goes.by (fun _ k => castTop (ef5 m pv) k) ?_
  show Goes p.tables e below (s₁.setTop (mkF m 0 #[.val (.int pv)] [])) _
  refine Goes.by (fun _ k => XS.iloadN X0.here hx rfl (hb hby d5_0) rfl k) ?_
  show Goes p.tables e below (s₁.setTop (mkF m 1 #[.val (.int pv)] [(.int pv)])) _
  refine Goes.by (fun _ k => XS.bipush X0.here hx rfl (hb hby d5_1) k) ?_
  show Goes p.tables e below (s₁.setTop (mkF m 3 #[.val (.int pv)] [(.int (-128 : Int32)), (.int pv)])) _
  by_cases hc1 : pv < (-128 : Int32)
  · refine Goes.by (fun _ k => XS.icmpYes X0.here hx rfl (pc0 := 3) (pc' := 23) rfl (hb hby d5_3) rfl (tlt hc1).1 (by decide) (by decide) k) ?_
    show Goes p.tables e below (s₁.setTop (mkF m 23 #[.val (.int pv)] [])) _
    obtain ⟨T2, h2, X2, e2, E2, A2, D2, -, st2⟩ := newO X0 hx hZ hown (hw _ (List.mem_of_getElem? (i := 54) rfl)) (hw _ (List.mem_of_getElem? (i := 55) rfl)) (hw _ (List.mem_of_getElem? (i := 33) rfl)) e0 (g := (mkF m 23 #[.val (.int pv)] [])) rfl (hb hby d5_23) (by decide) (by decide)
    obtain ⟨b2, g2⟩ : ∃ z, z = h0.size := ⟨_, rfl⟩
    rw [← g2] at A2 D2 st2
    have g_b2 : n0 ≤ b2 := Nat.le_trans Z0 (Nat.le_of_eq g2.symm)
    have sz_b2 : h0.size ≤ b2 := Nat.le_trans (Keep.refl h0 []).1 (Nat.le_of_eq g2.symm)
    have Zs2 : n0 ≤ h2.size := Nat.le_trans Z0 E2.1
    have K2 : Keep h0 h2 [] := (Keep.refl h0 []).ext E2
    refine Goes.by st2 ?_
    have O : Old Z n0 h2 := O.ext E2
    have E_b2 : Exa Z h2 b2 "java/lang/Integer" := A2
    have F_b2_value : Fld Z h2 b2 "java/lang/Integer" "value" "I" (.int (0 : Int32)) := D2 (Or.inr (hw _ (List.mem_of_getElem? (i := 68) rfl))) (ty := .int) (by decide)
    show Goes p.tables e below (T2.setTop (mkF m 26 #[.val (.int pv)] [(.ref b2)])) _
    refine Goes.by (fun _ k => XS.dup X2.here hx rfl (hb hby d5_26) rfl rfl k) ?_
    show Goes p.tables e below (T2.setTop (mkF m 27 #[.val (.int pv)] [(.ref b2), (.ref b2)])) _
    refine Goes.by (fun _ k => XS.iloadN X2.here hx rfl (hb hby d5_27) rfl k) ?_
    show Goes p.tables e below (T2.setTop (mkF m 28 #[.val (.int pv)] [(.int pv), (.ref b2), (.ref b2)])) _
    obtain ⟨_, _, ⟨T3, L3, k3, n3⟩, -, X3, ⟨Lc3, hQ3, l3, y3, z3⟩, st3⟩ := X2.specialBack hx (y := (⟨"java/lang/Integer", "<init>", "(I)V"⟩ : MethodName)) rfl hown (mvT hZ (hw _ (List.mem_of_getElem? (i := 56) rfl))) (mvT hZ (hw _ (List.mem_of_getElem? (i := 57) rfl))) (mvT hZ (hw _ (List.mem_of_getElem? (i := 59) rfl))) (by decide) (backOf (W := 1) (rm7 l Z a0 hw [] b2 pv h2 n0 Zs2 E_b2 F_b2_value g_b2) hZ (hw _ (List.mem_of_getElem? (i := 59) rfl)) (hw _ (List.mem_of_getElem? (i := 33) rfl)) (by decide) (by decide)) (g := (mkF m 28 #[.val (.int pv)] [(.int pv), (.ref b2), (.ref b2)])) rfl (by rw [hml]; rfl) (Steps.refl _) (a := b2) (argsL := [(.int pv)]) (rest := [(.ref b2)]) (lenOf pd_1 rfl) rfl (by show 2 * 0 + _ ≤ _; exact Nat.le_of_eq rfl) (hb hby d5_28) (fun _ _ => ⟨rfl, e2, (by decide : 1 + 0 ≤ _), (by decide : 1 + 0 ≤ _)⟩)
    dsimp only [Pt.U, Pt.locs, Pt.cells, Pt.slots] at X3 l3 y3 z3 st3 hQ3
    subst l3 y3 z3
    obtain ⟨rfl, N3q, Kq3, po3_0, po3_1⟩ := hQ3
    have N3 := Fr.app N0 N3q
    refine Goes.via st3 ?_
    have Zs3 : n0 ≤ T3.heap.size := Nat.le_trans Zs2 Kq3.1
    have K3 : Keep h0 T3.heap [] := K2.trans Kq3 (allS (Or.inr sz_b2) all0)
    have O : Old Z n0 T3.heap := O.keep Kq3 (allS g_b2 all0)
    have E_b2 : Exa Z T3.heap b2 "java/lang/Integer" := E_b2.keep Kq3
    have E_b2 : Exa Z T3.heap b2 "java/lang/Integer" := po3_0
    have F_b2_value : Fld Z T3.heap b2 "java/lang/Integer" "value" "I" (.int pv) := po3_1
    show Goes p.tables e below (T3.setTop (mkF m 31 #[.val (.int pv)] [(.ref b2)])) _
    obtain ⟨fs, hr, hrun, hended, hW, hsame⟩ := X3.leave (v := some (.ref b2)) (fun h => by rw [Bd.returns] at h; cases h)
    refine ⟨_, _, retOut X3 hx Bd.returns (i := .areturn) (narR rfl) (Or.inr (Or.inr (Or.inr (Or.inr ⟨rfl, rfl, rfl⟩)))) (hb hby d5_31) hr, hrun, hended, _, _, rfl, ?_, ⟨_, rfl⟩, hW, hsame.mono (by decide) (by decide)⟩
    show Q5 Z pv acac h0 n0 _ T3.heap _
    exact ⟨b2, rfl, N3, K3, E_b2⟩
  · refine Goes.by (fun _ k => XS.icmpNo X0.here hx rfl (hb hby d5_3) rfl (flt hc1).1 k) ?_
    show Goes p.tables e below (s₁.setTop (mkF m 6 #[.val (.int pv)] [])) _
    refine Goes.by (fun _ k => XS.iloadN X0.here hx rfl (hb hby d5_6) rfl k) ?_
    show Goes p.tables e below (s₁.setTop (mkF m 7 #[.val (.int pv)] [(.int pv)])) _
    obtain ⟨T4, X4, e4, st4⟩ := getS2 X0 hx hZ hown (host := "") (Or.inl (hw _ (List.mem_of_getElem? (i := 35) rfl))) Via.refl e0 (S_high.ext O.2) (g := (mkF m 7 #[.val (.int pv)] [(.int pv)])) rfl (hb hby d5_7)
    refine Goes.by st4 ?_
    show Goes p.tables e below (T4.setTop (mkF m 10 #[.val (.int pv)] [(.int (127 : Int32)), (.int pv)])) _
    by_cases hc5 : (127 : Int32) < pv
    · refine Goes.by (fun _ k => XS.icmpYes X4.here hx rfl (pc0 := 10) (pc' := 23) rfl (hb hby d5_10) rfl (tlt hc5).2.2.1 (by decide) (by decide) k) ?_
      show Goes p.tables e below (T4.setTop (mkF m 23 #[.val (.int pv)] [])) _
      obtain ⟨T6, h6, X6, e6, E6, A6, D6, -, st6⟩ := newO X4 hx hZ hown (hw _ (List.mem_of_getElem? (i := 54) rfl)) (hw _ (List.mem_of_getElem? (i := 55) rfl)) (hw _ (List.mem_of_getElem? (i := 33) rfl)) e4 (g := (mkF m 23 #[.val (.int pv)] [])) rfl (hb hby d5_23) (by decide) (by decide)
      obtain ⟨b6, g6⟩ : ∃ z, z = h0.size := ⟨_, rfl⟩
      rw [← g6] at A6 D6 st6
      have g_b6 : n0 ≤ b6 := Nat.le_trans Z0 (Nat.le_of_eq g6.symm)
      have sz_b6 : h0.size ≤ b6 := Nat.le_trans (Keep.refl h0 []).1 (Nat.le_of_eq g6.symm)
      have Zs6 : n0 ≤ h6.size := Nat.le_trans Z0 E6.1
      have K6 : Keep h0 h6 [] := (Keep.refl h0 []).ext E6
      refine Goes.by st6 ?_
      have O : Old Z n0 h6 := O.ext E6
      have E_b6 : Exa Z h6 b6 "java/lang/Integer" := A6
      have F_b6_value : Fld Z h6 b6 "java/lang/Integer" "value" "I" (.int (0 : Int32)) := D6 (Or.inr (hw _ (List.mem_of_getElem? (i := 68) rfl))) (ty := .int) (by decide)
      show Goes p.tables e below (T6.setTop (mkF m 26 #[.val (.int pv)] [(.ref b6)])) _
      refine Goes.by (fun _ k => XS.dup X6.here hx rfl (hb hby d5_26) rfl rfl k) ?_
      show Goes p.tables e below (T6.setTop (mkF m 27 #[.val (.int pv)] [(.ref b6), (.ref b6)])) _
      refine Goes.by (fun _ k => XS.iloadN X6.here hx rfl (hb hby d5_27) rfl k) ?_
      show Goes p.tables e below (T6.setTop (mkF m 28 #[.val (.int pv)] [(.int pv), (.ref b6), (.ref b6)])) _
      obtain ⟨_, _, ⟨T7, L7, k7, n7⟩, -, X7, ⟨Lc7, hQ7, l7, y7, z7⟩, st7⟩ := X6.specialBack hx (y := (⟨"java/lang/Integer", "<init>", "(I)V"⟩ : MethodName)) rfl hown (mvT hZ (hw _ (List.mem_of_getElem? (i := 56) rfl))) (mvT hZ (hw _ (List.mem_of_getElem? (i := 57) rfl))) (mvT hZ (hw _ (List.mem_of_getElem? (i := 59) rfl))) (by decide) (backOf (W := 1) (rm7 l Z a0 hw [] b6 pv h6 n0 Zs6 E_b6 F_b6_value g_b6) hZ (hw _ (List.mem_of_getElem? (i := 59) rfl)) (hw _ (List.mem_of_getElem? (i := 33) rfl)) (by decide) (by decide)) (g := (mkF m 28 #[.val (.int pv)] [(.int pv), (.ref b6), (.ref b6)])) rfl (by rw [hml]; rfl) (Steps.refl _) (a := b6) (argsL := [(.int pv)]) (rest := [(.ref b6)]) (lenOf pd_1 rfl) rfl (by show 2 * 0 + _ ≤ _; exact Nat.le_of_eq rfl) (hb hby d5_28) (fun _ _ => ⟨rfl, e6, (by decide : 1 + 0 ≤ _), (by decide : 1 + 0 ≤ _)⟩)
      dsimp only [Pt.U, Pt.locs, Pt.cells, Pt.slots] at X7 l7 y7 z7 st7 hQ7
      subst l7 y7 z7
      obtain ⟨rfl, N7q, Kq7, po7_0, po7_1⟩ := hQ7
      have N7 := Fr.app N0 N7q
      refine Goes.via st7 ?_
      have Zs7 : n0 ≤ T7.heap.size := Nat.le_trans Zs6 Kq7.1
      have K7 : Keep h0 T7.heap [] := K6.trans Kq7 (allS (Or.inr sz_b6) all0)
      have O : Old Z n0 T7.heap := O.keep Kq7 (allS g_b6 all0)
      have E_b6 : Exa Z T7.heap b6 "java/lang/Integer" := E_b6.keep Kq7
      have E_b6 : Exa Z T7.heap b6 "java/lang/Integer" := po7_0
      have F_b6_value : Fld Z T7.heap b6 "java/lang/Integer" "value" "I" (.int pv) := po7_1
      show Goes p.tables e below (T7.setTop (mkF m 31 #[.val (.int pv)] [(.ref b6)])) _
      obtain ⟨fs, hr, hrun, hended, hW, hsame⟩ := X7.leave (v := some (.ref b6)) (fun h => by rw [Bd.returns] at h; cases h)
      refine ⟨_, _, retOut X7 hx Bd.returns (i := .areturn) (narR rfl) (Or.inr (Or.inr (Or.inr (Or.inr ⟨rfl, rfl, rfl⟩)))) (hb hby d5_31) hr, hrun, hended, _, _, rfl, ?_, ⟨_, rfl⟩, hW, hsame.mono (by decide) (by decide)⟩
      show Q5 Z pv acac h0 n0 _ T7.heap _
      exact ⟨b6, rfl, N7, K7, E_b6⟩
    · refine Goes.by (fun _ k => XS.icmpNo X4.here hx rfl (hb hby d5_10) rfl (flt hc5).2.2.1 k) ?_
      show Goes p.tables e below (T4.setTop (mkF m 13 #[.val (.int pv)] [])) _
      obtain ⟨T8, X8, e8, st8⟩ := getS2 X4 hx hZ hown (host := "") (Or.inl (hw _ (List.mem_of_getElem? (i := 37) rfl))) Via.refl e4 (S_cache.ext O.2) (g := (mkF m 13 #[.val (.int pv)] [])) rfl (hb hby d5_13)
      refine Goes.by st8 ?_
      show Goes p.tables e below (T8.setTop (mkF m 16 #[.val (.int pv)] [(.ref acac)])) _
      refine Goes.by (fun _ k => XS.iloadN X8.here hx rfl (hb hby d5_16) rfl k) ?_
      show Goes p.tables e below (T8.setTop (mkF m 17 #[.val (.int pv)] [(.int pv), (.ref acac)])) _
      refine Goes.by (fun _ k => XS.sipush X8.here hx rfl (hb hby d5_17) k) ?_
      show Goes p.tables e below (T8.setTop (mkF m 20 #[.val (.int pv)] [(.int (128 : Int32)), (.int pv), (.ref acac)])) _
      refine Goes.by (fun _ k => XS.iadd X8.here hx rfl (hb hby d5_20) rfl k) ?_
      show Goes p.tables e below (T8.setTop (mkF m 21 #[.val (.int pv)] [(.int (pv + (128 : Int32))), (.ref acac)])) _
      obtain ⟨b9, E9, st9⟩ := ldCac (i := (pv.toInt + 128).toNat) (fr := (mkF m 21 #[.val (.int pv)] [(.int (pv + (128 : Int32))), (.ref acac)])) X8 hx hZ e8 O.2 hcac (own_at128 pv hc1 hc5).1 (own_at128 pv hc1 hc5).2 rfl rfl (hb hby d5_21)
      refine Goes.by st9 ?_
      have E_b9 : Exa Z h0 b9 "java/lang/Integer" := E9
      show Goes p.tables e below (T8.setTop (mkF m 22 #[.val (.int pv)] [(.ref b9)])) _
      obtain ⟨fs, hr, hrun, hended, hW, hsame⟩ := X8.leave (v := some (.ref b9)) (fun h => by rw [Bd.returns] at h; cases h)
      refine ⟨_, _, retOut X8 hx Bd.returns (i := .areturn) (narR rfl) (Or.inr (Or.inr (Or.inr (Or.inr ⟨rfl, rfl, rfl⟩)))) (hb hby d5_22) hr, hrun, hended, _, _, rfl, ?_, ⟨_, rfl⟩, hW, hsame.mono (by decide) (by decide)⟩
      show Q5 Z pv acac h0 n0 _ T8.heap _
      rw [e8]
      exact ⟨b9, rfl, N0, (Keep.refl h0 []), E_b9⟩
theorem own_m24 (x : Int32) : ¬ ((x &&& (16777215 : Int32)) < (0 : Int32)) ∧ ¬ ((16777215 : Int32) < (x &&& (16777215 : Int32))) := by
  have h := c_and x 16777215 (by decide)
  simp only [Int32.lt_iff_toInt_lt]
  have e0 : (0 : Int32).toInt = 0 := rfl
  omega
theorem own_m16 (x : Int32) : ¬ ((x &&& (65535 : Int32)) < (0 : Int32)) ∧ ¬ ((65535 : Int32) < (x &&& (65535 : Int32))) := by
  have h := c_and x 65535 (by decide)
  simp only [Int32.lt_iff_toInt_lt]
  have e0 : (0 : Int32).toInt = 0 := rfl
  omega
theorem own_exp (s e d s' e' d' : Int32) : fn4 s e d s' e' d' = (if s = s' then (if e = e' then (if d = d' then (1 : Int32) else (0 : Int32)) else (0 : Int32)) else (0 : Int32)) := by
  rw [fn4]
  (repeat' split) <;> first | rfl | (exfalso; simp_all)
theorem own_exq (s e d s' e' d' : Int32) : fn4 s' e' d' s e d = (if s = s' then (if e = e' then (if d = d' then (1 : Int32) else (0 : Int32)) else (0 : Int32)) else (0 : Int32)) := rfl
theorem pd_2 : parseMethodDescriptor "(III)V" = some ⟨[.int, .int, .int], none⟩ := by decide +kernel
theorem pd_3 : parseMethodDescriptor "(Ljava/lang/Object;)Z" = some ⟨[(.object "java/lang/Object")], some .boolean⟩ := by decide +kernel
theorem pd_4 : parseMethodDescriptor "(II)V" = some ⟨[.int, .int], none⟩ := by decide +kernel
theorem pd_5 : parseMethodDescriptor "(I)Ljava/lang/Integer;" = some ⟨[.int], some (.object "java/lang/Integer")⟩ := by decide +kernel
theorem pn_5 : plainName "castkey/card/KeyIdEqualsPinLaw" = true := by first | (simp [plainName, overriddenIn]; done) | decide +kernel
theorem ef0 (m : MethodId) (pd : Int32) (pg : Int32) (pn : Int32) (pe : Int32) (ph : Int32) (pz : Int32) : entryFrame m #[(.int pd), (.int pg), (.int pn), (.int pe), (.int ph), (.int pz)] maxLocals = mkF m 0 #[.val (.int pd), .val (.int pg), .val (.int pn), .val (.int pe), .val (.int ph), .val (.int pz), .unset, .unset, .unset, .unset, .unset, .unset, .unset, .unset, .unset, .unset] [] := by first | (simp [entryFrame, mkF, argsToLocals, Value.category, maxLocals]; done) | rfl
def Q0 (Z : State) (pd : Int32) (pg : Int32) (pn : Int32) (pe : Int32) (ph : Int32) (pz : Int32) (acac : Addr) (h0 : Heap) (n0 : Nat) (v : Option Value) (h : Heap) (L : List Loc) : Prop := v = some (.int (1 : Int32)) ∧ Fr n0 L
set_option maxRecDepth 65536 in
set_option maxHeartbeats 40000000 in
theorem rm0 (l : Launch) (Z : State) (a0 : Array Value) (hw : ∀ d ∈ tables_1, d.before a0 Z = true) (ws : List Jvm.Cond) (pd : Int32) (pg : Int32) (pn : Int32) (pe : Int32) (ph : Int32) (pz : Int32) (acac : Addr) (h0 : Heap) (n0 : Nat) (Z0 : n0 ≤ h0.size) (O : Old Z n0 h0) (S_high : Sta Z Z.heap "java/lang/Integer$IntegerCache" "high" "I" (.int (127 : Int32))) (S_cache : Sta Z Z.heap "java/lang/Integer$IntegerCache" "cache" "[Ljava/lang/Integer;" (.ref acac)) (hcac : Cac Z acac) :
    MetFree l x (head1 (Jvm.Cond.code x code maxLocals ret :: ws) room_1) (fun a U => a = #[(.int pd), (.int pg), (.int pn), (.int pe), (.int ph), (.int pz)] ∧ Z.Warmed39 U.vm ∧ U.heap = h0) (fun _ _ _ _ _ => True) (fun _ U o U' => ∃ v L, o = .returned v ∧ Q0 Z pd pg pn pe ph pz acac h0 n0 v U'.heap L ∧ FrameEnd U o U' L room_1.cells room_1.slots) := by
  refine MetFree.of_bodySF (plainFor_of_name pn_5) hisR ?_
  intro p e s m args below meth c s₁ Bd hml0 hP hK
  obtain ⟨rfl, hZ, hh⟩ := hP
  have hx := Bd.exec
  have hby := Bd.bytes
  have hml : c.maxLocals = 16 := hml0
  have hown : s.vm.findClass "castkey/card/KeyIdEqualsPinLaw" = some m.cls := findClass_of_methodNamed Bd.named
  have hnm := (name_of_methodNamed Bd.named Bd.method).1
  have X0 : Stand p l e room_1 s m #[(.int pd), (.int pg), (.int pn), (.int pe), (.int ph), (.int pz)] below meth c s₁ [] 0 0 := Stand.of_body Bd
  have e0 : s₁.heap = h0 := by rw [← hh, Bd.state]; rfl
  have N0 := Fr.nil n0
  refine Goes.by (fun _ k => castTop (ef0 m pd pg pn pe ph pz) k) ?_
  show Goes p.tables e below (s₁.setTop (mkF m 0 #[.val (.int pd), .val (.int pg), .val (.int pn), .val (.int pe), .val (.int ph), .val (.int pz), .unset, .unset, .unset, .unset, .unset, .unset, .unset, .unset, .unset, .unset] [])) _
  refine Goes.by (fun _ k => XS.iloadN X0.here hx rfl (hb hby at_0) rfl k) ?_
  show Goes p.tables e below (s₁.setTop (mkF m 1 #[.val (.int pd), .val (.int pg), .val (.int pn), .val (.int pe), .val (.int ph), .val (.int pz), .unset, .unset, .unset, .unset, .unset, .unset, .unset, .unset, .unset, .unset] [(.int pd)])) _
  refine Goes.by (fun _ k => X0.ldcI hx hown (mvT hZ (hw _ (List.mem_of_getElem? (i := 0) rfl))) (g := (mkF m 1 #[.val (.int pd), .val (.int pg), .val (.int pn), .val (.int pe), .val (.int ph), .val (.int pz), .unset, .unset, .unset, .unset, .unset, .unset, .unset, .unset, .unset, .unset] [(.int pd)])) rfl (hb hby at_1) k) ?_
  show Goes p.tables e below (s₁.setTop (mkF m 3 #[.val (.int pd), .val (.int pg), .val (.int pn), .val (.int pe), .val (.int ph), .val (.int pz), .unset, .unset, .unset, .unset, .unset, .unset, .unset, .unset, .unset, .unset] [(.int (16777215 : Int32)), (.int pd)])) _
  refine Goes.by (fun _ k => XS.iand X0.here hx rfl (hb hby at_3) rfl k) ?_
  show Goes p.tables e below (s₁.setTop (mkF m 4 #[.val (.int pd), .val (.int pg), .val (.int pn), .val (.int pe), .val (.int ph), .val (.int pz), .unset, .unset, .unset, .unset, .unset, .unset, .unset, .unset, .unset, .unset] [(.int (pd &&& (16777215 : Int32)))])) _
  obtain ⟨x1, hx1⟩ : ∃ z : Int32, z = (pd &&& (16777215 : Int32)) := ⟨_, rfl⟩
  refine Goes.by (fun _ k => XS.istore X0.here hx rfl (hb hby at_4) rfl (l' := #[.val (.int pd), .val (.int pg), .val (.int pn), .val (.int pe), .val (.int ph), .val (.int pz), .val (.int x1), .unset, .unset, .unset, .unset, .unset, .unset, .unset, .unset, .unset]) (by rw [hx1]; rfl) k) ?_
  show Goes p.tables e below (s₁.setTop (mkF m 6 #[.val (.int pd), .val (.int pg), .val (.int pn), .val (.int pe), .val (.int ph), .val (.int pz), .val (.int x1), .unset, .unset, .unset, .unset, .unset, .unset, .unset, .unset, .unset] [])) _
  refine Goes.by (fun _ k => XS.iloadN X0.here hx rfl (hb hby at_6) rfl k) ?_
  show Goes p.tables e below (s₁.setTop (mkF m 7 #[.val (.int pd), .val (.int pg), .val (.int pn), .val (.int pe), .val (.int ph), .val (.int pz), .val (.int x1), .unset, .unset, .unset, .unset, .unset, .unset, .unset, .unset, .unset] [(.int pg)])) _
  refine Goes.by (fun _ k => X0.ldcI hx hown (mvT hZ (hw _ (List.mem_of_getElem? (i := 1) rfl))) (g := (mkF m 7 #[.val (.int pd), .val (.int pg), .val (.int pn), .val (.int pe), .val (.int ph), .val (.int pz), .val (.int x1), .unset, .unset, .unset, .unset, .unset, .unset, .unset, .unset, .unset] [(.int pg)])) rfl (hb hby at_7) k) ?_
  show Goes p.tables e below (s₁.setTop (mkF m 9 #[.val (.int pd), .val (.int pg), .val (.int pn), .val (.int pe), .val (.int ph), .val (.int pz), .val (.int x1), .unset, .unset, .unset, .unset, .unset, .unset, .unset, .unset, .unset] [(.int (65535 : Int32)), (.int pg)])) _
  refine Goes.by (fun _ k => XS.iand X0.here hx rfl (hb hby at_9) rfl k) ?_
  show Goes p.tables e below (s₁.setTop (mkF m 10 #[.val (.int pd), .val (.int pg), .val (.int pn), .val (.int pe), .val (.int ph), .val (.int pz), .val (.int x1), .unset, .unset, .unset, .unset, .unset, .unset, .unset, .unset, .unset] [(.int (pg &&& (65535 : Int32)))])) _
  obtain ⟨x2, hx2⟩ : ∃ z : Int32, z = (pg &&& (65535 : Int32)) := ⟨_, rfl⟩
  refine Goes.by (fun _ k => XS.istore X0.here hx rfl (hb hby at_10) rfl (l' := #[.val (.int pd), .val (.int pg), .val (.int pn), .val (.int pe), .val (.int ph), .val (.int pz), .val (.int x1), .val (.int x2), .unset, .unset, .unset, .unset, .unset, .unset, .unset, .unset]) (by rw [hx2]; rfl) k) ?_
  show Goes p.tables e below (s₁.setTop (mkF m 12 #[.val (.int pd), .val (.int pg), .val (.int pn), .val (.int pe), .val (.int ph), .val (.int pz), .val (.int x1), .val (.int x2), .unset, .unset, .unset, .unset, .unset, .unset, .unset, .unset] [])) _
  refine Goes.by (fun _ k => XS.iloadN X0.here hx rfl (hb hby at_12) rfl k) ?_
  show Goes p.tables e below (s₁.setTop (mkF m 13 #[.val (.int pd), .val (.int pg), .val (.int pn), .val (.int pe), .val (.int ph), .val (.int pz), .val (.int x1), .val (.int x2), .unset, .unset, .unset, .unset, .unset, .unset, .unset, .unset] [(.int pn)])) _
  refine Goes.by (fun _ k => X0.ldcI hx hown (mvT hZ (hw _ (List.mem_of_getElem? (i := 1) rfl))) (g := (mkF m 13 #[.val (.int pd), .val (.int pg), .val (.int pn), .val (.int pe), .val (.int ph), .val (.int pz), .val (.int x1), .val (.int x2), .unset, .unset, .unset, .unset, .unset, .unset, .unset, .unset] [(.int pn)])) rfl (hb hby at_13) k) ?_
  show Goes p.tables e below (s₁.setTop (mkF m 15 #[.val (.int pd), .val (.int pg), .val (.int pn), .val (.int pe), .val (.int ph), .val (.int pz), .val (.int x1), .val (.int x2), .unset, .unset, .unset, .unset, .unset, .unset, .unset, .unset] [(.int (65535 : Int32)), (.int pn)])) _
  refine Goes.by (fun _ k => XS.iand X0.here hx rfl (hb hby at_15) rfl k) ?_
  show Goes p.tables e below (s₁.setTop (mkF m 16 #[.val (.int pd), .val (.int pg), .val (.int pn), .val (.int pe), .val (.int ph), .val (.int pz), .val (.int x1), .val (.int x2), .unset, .unset, .unset, .unset, .unset, .unset, .unset, .unset] [(.int (pn &&& (65535 : Int32)))])) _
  obtain ⟨x3, hx3⟩ : ∃ z : Int32, z = (pn &&& (65535 : Int32)) := ⟨_, rfl⟩
  refine Goes.by (fun _ k => XS.istore X0.here hx rfl (hb hby at_16) rfl (l' := #[.val (.int pd), .val (.int pg), .val (.int pn), .val (.int pe), .val (.int ph), .val (.int pz), .val (.int x1), .val (.int x2), .val (.int x3), .unset, .unset, .unset, .unset, .unset, .unset, .unset]) (by rw [hx3]; rfl) k) ?_
  show Goes p.tables e below (s₁.setTop (mkF m 18 #[.val (.int pd), .val (.int pg), .val (.int pn), .val (.int pe), .val (.int ph), .val (.int pz), .val (.int x1), .val (.int x2), .val (.int x3), .unset, .unset, .unset, .unset, .unset, .unset, .unset] [])) _
  refine Goes.by (fun _ k => XS.iload X0.here hx rfl (hb hby at_18) rfl k) ?_
  show Goes p.tables e below (s₁.setTop (mkF m 20 #[.val (.int pd), .val (.int pg), .val (.int pn), .val (.int pe), .val (.int ph), .val (.int pz), .val (.int x1), .val (.int x2), .val (.int x3), .unset, .unset, .unset, .unset, .unset, .unset, .unset] [(.int pz)])) _
  refine Goes.by (fun _ k => XS.iconst X0.here hx rfl (hb hby at_20) k) ?_
  show Goes p.tables e below (s₁.setTop (mkF m 21 #[.val (.int pd), .val (.int pg), .val (.int pn), .val (.int pe), .val (.int ph), .val (.int pz), .val (.int x1), .val (.int x2), .val (.int x3), .unset, .unset, .unset, .unset, .unset, .unset, .unset] [(.int (1 : Int32)), (.int pz)])) _
  refine Goes.by (fun _ k => XS.iand X0.here hx rfl (hb hby at_21) rfl k) ?_
  show Goes p.tables e below (s₁.setTop (mkF m 22 #[.val (.int pd), .val (.int pg), .val (.int pn), .val (.int pe), .val (.int ph), .val (.int pz), .val (.int x1), .val (.int x2), .val (.int x3), .unset, .unset, .unset, .unset, .unset, .unset, .unset] [(.int (pz &&& (1 : Int32)))])) _
  obtain ⟨v4, hv4⟩ : ∃ z : Int32, z = (if (pz &&& (1 : Int32)) = (0 : Int32) then (pe &&& (16777215 : Int32)) else x1) := ⟨_, rfl⟩
  refine Goes.by (t' := s₁.setTop (mkF m 34 #[.val (.int pd), .val (.int pg), .val (.int pn), .val (.int pe), .val (.int ph), .val (.int pz), .val (.int x1), .val (.int x2), .val (.int x3), .unset, .unset, .unset, .unset, .unset, .unset, .unset] [(.int v4)])) (fun u k => ?_) ?_
  · show Steps p.tables e below (s₁.setTop (mkF m 22 #[.val (.int pd), .val (.int pg), .val (.int pn), .val (.int pe), .val (.int ph), .val (.int pz), .val (.int x1), .val (.int x2), .val (.int x3), .unset, .unset, .unset, .unset, .unset, .unset, .unset] [(.int (pz &&& (1 : Int32)))])) _
    by_cases hc5 : (pz &&& (1 : Int32)) = (0 : Int32)
    · refine XS.ifYes X0.here hx rfl (pc0 := 22) (pc' := 30) rfl (hb hby at_22) rfl ((if0 _ _).trans (teq hc5).1) (by decide) (by decide) ?_
      show Steps p.tables e below (s₁.setTop (mkF m 30 #[.val (.int pd), .val (.int pg), .val (.int pn), .val (.int pe), .val (.int ph), .val (.int pz), .val (.int x1), .val (.int x2), .val (.int x3), .unset, .unset, .unset, .unset, .unset, .unset, .unset] [])) _
      refine XS.iloadN X0.here hx rfl (hb hby at_30) rfl ?_
      show Steps p.tables e below (s₁.setTop (mkF m 31 #[.val (.int pd), .val (.int pg), .val (.int pn), .val (.int pe), .val (.int ph), .val (.int pz), .val (.int x1), .val (.int x2), .val (.int x3), .unset, .unset, .unset, .unset, .unset, .unset, .unset] [(.int pe)])) _
      refine X0.ldcI hx hown (mvT hZ (hw _ (List.mem_of_getElem? (i := 0) rfl))) (g := (mkF m 31 #[.val (.int pd), .val (.int pg), .val (.int pn), .val (.int pe), .val (.int ph), .val (.int pz), .val (.int x1), .val (.int x2), .val (.int x3), .unset, .unset, .unset, .unset, .unset, .unset, .unset] [(.int pe)])) rfl (hb hby at_31) ?_
      show Steps p.tables e below (s₁.setTop (mkF m 33 #[.val (.int pd), .val (.int pg), .val (.int pn), .val (.int pe), .val (.int ph), .val (.int pz), .val (.int x1), .val (.int x2), .val (.int x3), .unset, .unset, .unset, .unset, .unset, .unset, .unset] [(.int (16777215 : Int32)), (.int pe)])) _
      refine XS.iand X0.here hx rfl (hb hby at_33) rfl ?_
      show Steps p.tables e below (s₁.setTop (mkF m 34 #[.val (.int pd), .val (.int pg), .val (.int pn), .val (.int pe), .val (.int ph), .val (.int pz), .val (.int x1), .val (.int x2), .val (.int x3), .unset, .unset, .unset, .unset, .unset, .unset, .unset] [(.int (pe &&& (16777215 : Int32)))])) _
      have qv4 : v4 = (pe &&& (16777215 : Int32)) := by rw [hv4, if_pos hc5]
      subst qv4
      exact k
    · refine XS.ifNo X0.here hx rfl (hb hby at_22) rfl ((if0 _ _).trans (feq hc5).1) ?_
      show Steps p.tables e below (s₁.setTop (mkF m 25 #[.val (.int pd), .val (.int pg), .val (.int pn), .val (.int pe), .val (.int ph), .val (.int pz), .val (.int x1), .val (.int x2), .val (.int x3), .unset, .unset, .unset, .unset, .unset, .unset, .unset] [])) _
      refine XS.iload X0.here hx rfl (hb hby at_25) rfl ?_
      show Steps p.tables e below (s₁.setTop (mkF m 27 #[.val (.int pd), .val (.int pg), .val (.int pn), .val (.int pe), .val (.int ph), .val (.int pz), .val (.int x1), .val (.int x2), .val (.int x3), .unset, .unset, .unset, .unset, .unset, .unset, .unset] [(.int x1)])) _
      refine XS.goto X0.here hx rfl (pc0 := 27) (pc' := 34) rfl (hb hby at_27) (by decide) (by decide) ?_
      show Steps p.tables e below (s₁.setTop (mkF m 34 #[.val (.int pd), .val (.int pg), .val (.int pn), .val (.int pe), .val (.int ph), .val (.int pz), .val (.int x1), .val (.int x2), .val (.int x3), .unset, .unset, .unset, .unset, .unset, .unset, .unset] [(.int x1)])) _
      have qv4 : v4 = x1 := by rw [hv4, if_neg hc5]
      subst qv4
      exact k
  show Goes p.tables e below (s₁.setTop (mkF m 34 #[.val (.int pd), .val (.int pg), .val (.int pn), .val (.int pe), .val (.int ph), .val (.int pz), .val (.int x1), .val (.int x2), .val (.int x3), .unset, .unset, .unset, .unset, .unset, .unset, .unset] [(.int v4)])) _
  refine Goes.by (fun _ k => XS.istore X0.here hx rfl (hb hby at_34) rfl (l' := #[.val (.int pd), .val (.int pg), .val (.int pn), .val (.int pe), .val (.int ph), .val (.int pz), .val (.int x1), .val (.int x2), .val (.int x3), .val (.int v4), .unset, .unset, .unset, .unset, .unset, .unset]) rfl k) ?_
  show Goes p.tables e below (s₁.setTop (mkF m 36 #[.val (.int pd), .val (.int pg), .val (.int pn), .val (.int pe), .val (.int ph), .val (.int pz), .val (.int x1), .val (.int x2), .val (.int x3), .val (.int v4), .unset, .unset, .unset, .unset, .unset, .unset] [])) _
  refine Goes.by (fun _ k => XS.iload X0.here hx rfl (hb hby at_36) rfl k) ?_
  show Goes p.tables e below (s₁.setTop (mkF m 38 #[.val (.int pd), .val (.int pg), .val (.int pn), .val (.int pe), .val (.int ph), .val (.int pz), .val (.int x1), .val (.int x2), .val (.int x3), .val (.int v4), .unset, .unset, .unset, .unset, .unset, .unset] [(.int pz)])) _
  refine Goes.by (fun _ k => XS.iconst X0.here hx rfl (hb hby at_38) k) ?_
  show Goes p.tables e below (s₁.setTop (mkF m 39 #[.val (.int pd), .val (.int pg), .val (.int pn), .val (.int pe), .val (.int ph), .val (.int pz), .val (.int x1), .val (.int x2), .val (.int x3), .val (.int v4), .unset, .unset, .unset, .unset, .unset, .unset] [(.int (2 : Int32)), (.int pz)])) _
  refine Goes.by (fun _ k => XS.iand X0.here hx rfl (hb hby at_39) rfl k) ?_
  show Goes p.tables e below (s₁.setTop (mkF m 40 #[.val (.int pd), .val (.int pg), .val (.int pn), .val (.int pe), .val (.int ph), .val (.int pz), .val (.int x1), .val (.int x2), .val (.int x3), .val (.int v4), .unset, .unset, .unset, .unset, .unset, .unset] [(.int (pz &&& (2 : Int32)))])) _
  obtain ⟨v6, hv6⟩ : ∃ z : Int32, z = (if (pz &&& (2 : Int32)) = (0 : Int32) then (ph &&& (65535 : Int32)) else x2) := ⟨_, rfl⟩
  refine Goes.by (t' := s₁.setTop (mkF m 53 #[.val (.int pd), .val (.int pg), .val (.int pn), .val (.int pe), .val (.int ph), .val (.int pz), .val (.int x1), .val (.int x2), .val (.int x3), .val (.int v4), .unset, .unset, .unset, .unset, .unset, .unset] [(.int v6)])) (fun u k => ?_) ?_
  · show Steps p.tables e below (s₁.setTop (mkF m 40 #[.val (.int pd), .val (.int pg), .val (.int pn), .val (.int pe), .val (.int ph), .val (.int pz), .val (.int x1), .val (.int x2), .val (.int x3), .val (.int v4), .unset, .unset, .unset, .unset, .unset, .unset] [(.int (pz &&& (2 : Int32)))])) _
    by_cases hc7 : (pz &&& (2 : Int32)) = (0 : Int32)
    · refine XS.ifYes X0.here hx rfl (pc0 := 40) (pc' := 48) rfl (hb hby at_40) rfl ((if0 _ _).trans (teq hc7).1) (by decide) (by decide) ?_
      show Steps p.tables e below (s₁.setTop (mkF m 48 #[.val (.int pd), .val (.int pg), .val (.int pn), .val (.int pe), .val (.int ph), .val (.int pz), .val (.int x1), .val (.int x2), .val (.int x3), .val (.int v4), .unset, .unset, .unset, .unset, .unset, .unset] [])) _
      refine XS.iload X0.here hx rfl (hb hby at_48) rfl ?_
      show Steps p.tables e below (s₁.setTop (mkF m 50 #[.val (.int pd), .val (.int pg), .val (.int pn), .val (.int pe), .val (.int ph), .val (.int pz), .val (.int x1), .val (.int x2), .val (.int x3), .val (.int v4), .unset, .unset, .unset, .unset, .unset, .unset] [(.int ph)])) _
      refine X0.ldcI hx hown (mvT hZ (hw _ (List.mem_of_getElem? (i := 1) rfl))) (g := (mkF m 50 #[.val (.int pd), .val (.int pg), .val (.int pn), .val (.int pe), .val (.int ph), .val (.int pz), .val (.int x1), .val (.int x2), .val (.int x3), .val (.int v4), .unset, .unset, .unset, .unset, .unset, .unset] [(.int ph)])) rfl (hb hby at_50) ?_
      show Steps p.tables e below (s₁.setTop (mkF m 52 #[.val (.int pd), .val (.int pg), .val (.int pn), .val (.int pe), .val (.int ph), .val (.int pz), .val (.int x1), .val (.int x2), .val (.int x3), .val (.int v4), .unset, .unset, .unset, .unset, .unset, .unset] [(.int (65535 : Int32)), (.int ph)])) _
      refine XS.iand X0.here hx rfl (hb hby at_52) rfl ?_
      show Steps p.tables e below (s₁.setTop (mkF m 53 #[.val (.int pd), .val (.int pg), .val (.int pn), .val (.int pe), .val (.int ph), .val (.int pz), .val (.int x1), .val (.int x2), .val (.int x3), .val (.int v4), .unset, .unset, .unset, .unset, .unset, .unset] [(.int (ph &&& (65535 : Int32)))])) _
      have qv6 : v6 = (ph &&& (65535 : Int32)) := by rw [hv6, if_pos hc7]
      subst qv6
      exact k
    · refine XS.ifNo X0.here hx rfl (hb hby at_40) rfl ((if0 _ _).trans (feq hc7).1) ?_
      show Steps p.tables e below (s₁.setTop (mkF m 43 #[.val (.int pd), .val (.int pg), .val (.int pn), .val (.int pe), .val (.int ph), .val (.int pz), .val (.int x1), .val (.int x2), .val (.int x3), .val (.int v4), .unset, .unset, .unset, .unset, .unset, .unset] [])) _
      refine XS.iload X0.here hx rfl (hb hby at_43) rfl ?_
      show Steps p.tables e below (s₁.setTop (mkF m 45 #[.val (.int pd), .val (.int pg), .val (.int pn), .val (.int pe), .val (.int ph), .val (.int pz), .val (.int x1), .val (.int x2), .val (.int x3), .val (.int v4), .unset, .unset, .unset, .unset, .unset, .unset] [(.int x2)])) _
      refine XS.goto X0.here hx rfl (pc0 := 45) (pc' := 53) rfl (hb hby at_45) (by decide) (by decide) ?_
      show Steps p.tables e below (s₁.setTop (mkF m 53 #[.val (.int pd), .val (.int pg), .val (.int pn), .val (.int pe), .val (.int ph), .val (.int pz), .val (.int x1), .val (.int x2), .val (.int x3), .val (.int v4), .unset, .unset, .unset, .unset, .unset, .unset] [(.int x2)])) _
      have qv6 : v6 = x2 := by rw [hv6, if_neg hc7]
      subst qv6
      exact k
  show Goes p.tables e below (s₁.setTop (mkF m 53 #[.val (.int pd), .val (.int pg), .val (.int pn), .val (.int pe), .val (.int ph), .val (.int pz), .val (.int x1), .val (.int x2), .val (.int x3), .val (.int v4), .unset, .unset, .unset, .unset, .unset, .unset] [(.int v6)])) _
  refine Goes.by (fun _ k => XS.istore X0.here hx rfl (hb hby at_53) rfl (l' := #[.val (.int pd), .val (.int pg), .val (.int pn), .val (.int pe), .val (.int ph), .val (.int pz), .val (.int x1), .val (.int x2), .val (.int x3), .val (.int v4), .val (.int v6), .unset, .unset, .unset, .unset, .unset]) rfl k) ?_
  show Goes p.tables e below (s₁.setTop (mkF m 55 #[.val (.int pd), .val (.int pg), .val (.int pn), .val (.int pe), .val (.int ph), .val (.int pz), .val (.int x1), .val (.int x2), .val (.int x3), .val (.int v4), .val (.int v6), .unset, .unset, .unset, .unset, .unset] [])) _
  refine Goes.by (fun _ k => XS.iload X0.here hx rfl (hb hby at_55) rfl k) ?_
  show Goes p.tables e below (s₁.setTop (mkF m 57 #[.val (.int pd), .val (.int pg), .val (.int pn), .val (.int pe), .val (.int ph), .val (.int pz), .val (.int x1), .val (.int x2), .val (.int x3), .val (.int v4), .val (.int v6), .unset, .unset, .unset, .unset, .unset] [(.int pz)])) _
  refine Goes.by (fun _ k => XS.iconst X0.here hx rfl (hb hby at_57) k) ?_
  show Goes p.tables e below (s₁.setTop (mkF m 58 #[.val (.int pd), .val (.int pg), .val (.int pn), .val (.int pe), .val (.int ph), .val (.int pz), .val (.int x1), .val (.int x2), .val (.int x3), .val (.int v4), .val (.int v6), .unset, .unset, .unset, .unset, .unset] [(.int (4 : Int32)), (.int pz)])) _
  refine Goes.by (fun _ k => XS.iand X0.here hx rfl (hb hby at_58) rfl k) ?_
  show Goes p.tables e below (s₁.setTop (mkF m 59 #[.val (.int pd), .val (.int pg), .val (.int pn), .val (.int pe), .val (.int ph), .val (.int pz), .val (.int x1), .val (.int x2), .val (.int x3), .val (.int v4), .val (.int v6), .unset, .unset, .unset, .unset, .unset] [(.int (pz &&& (4 : Int32)))])) _
  obtain ⟨v8, hv8⟩ : ∃ z : Int32, z = (if (pz &&& (4 : Int32)) = (0 : Int32) then (((ph.toUInt32 >>> ((16 : Int32) &&& 31).toUInt32).toInt32) &&& (65535 : Int32)) else x3) := ⟨_, rfl⟩
  refine Goes.by (t' := s₁.setTop (mkF m 75 #[.val (.int pd), .val (.int pg), .val (.int pn), .val (.int pe), .val (.int ph), .val (.int pz), .val (.int x1), .val (.int x2), .val (.int x3), .val (.int v4), .val (.int v6), .unset, .unset, .unset, .unset, .unset] [(.int v8)])) (fun u k => ?_) ?_
  · show Steps p.tables e below (s₁.setTop (mkF m 59 #[.val (.int pd), .val (.int pg), .val (.int pn), .val (.int pe), .val (.int ph), .val (.int pz), .val (.int x1), .val (.int x2), .val (.int x3), .val (.int v4), .val (.int v6), .unset, .unset, .unset, .unset, .unset] [(.int (pz &&& (4 : Int32)))])) _
    by_cases hc9 : (pz &&& (4 : Int32)) = (0 : Int32)
    · refine XS.ifYes X0.here hx rfl (pc0 := 59) (pc' := 67) rfl (hb hby at_59) rfl ((if0 _ _).trans (teq hc9).1) (by decide) (by decide) ?_
      show Steps p.tables e below (s₁.setTop (mkF m 67 #[.val (.int pd), .val (.int pg), .val (.int pn), .val (.int pe), .val (.int ph), .val (.int pz), .val (.int x1), .val (.int x2), .val (.int x3), .val (.int v4), .val (.int v6), .unset, .unset, .unset, .unset, .unset] [])) _
      refine XS.iload X0.here hx rfl (hb hby at_67) rfl ?_
      show Steps p.tables e below (s₁.setTop (mkF m 69 #[.val (.int pd), .val (.int pg), .val (.int pn), .val (.int pe), .val (.int ph), .val (.int pz), .val (.int x1), .val (.int x2), .val (.int x3), .val (.int v4), .val (.int v6), .unset, .unset, .unset, .unset, .unset] [(.int ph)])) _
      refine XS.bipush X0.here hx rfl (hb hby at_69) ?_
      show Steps p.tables e below (s₁.setTop (mkF m 71 #[.val (.int pd), .val (.int pg), .val (.int pn), .val (.int pe), .val (.int ph), .val (.int pz), .val (.int x1), .val (.int x2), .val (.int x3), .val (.int v4), .val (.int v6), .unset, .unset, .unset, .unset, .unset] [(.int (16 : Int32)), (.int ph)])) _
      refine XS.iushr X0.here hx rfl (hb hby at_71) rfl ?_
      show Steps p.tables e below (s₁.setTop (mkF m 72 #[.val (.int pd), .val (.int pg), .val (.int pn), .val (.int pe), .val (.int ph), .val (.int pz), .val (.int x1), .val (.int x2), .val (.int x3), .val (.int v4), .val (.int v6), .unset, .unset, .unset, .unset, .unset] [(.int ((ph.toUInt32 >>> ((16 : Int32) &&& 31).toUInt32).toInt32))])) _
      refine X0.ldcI hx hown (mvT hZ (hw _ (List.mem_of_getElem? (i := 1) rfl))) (g := (mkF m 72 #[.val (.int pd), .val (.int pg), .val (.int pn), .val (.int pe), .val (.int ph), .val (.int pz), .val (.int x1), .val (.int x2), .val (.int x3), .val (.int v4), .val (.int v6), .unset, .unset, .unset, .unset, .unset] [(.int ((ph.toUInt32 >>> ((16 : Int32) &&& 31).toUInt32).toInt32))])) rfl (hb hby at_72) ?_
      show Steps p.tables e below (s₁.setTop (mkF m 74 #[.val (.int pd), .val (.int pg), .val (.int pn), .val (.int pe), .val (.int ph), .val (.int pz), .val (.int x1), .val (.int x2), .val (.int x3), .val (.int v4), .val (.int v6), .unset, .unset, .unset, .unset, .unset] [(.int (65535 : Int32)), (.int ((ph.toUInt32 >>> ((16 : Int32) &&& 31).toUInt32).toInt32))])) _
      refine XS.iand X0.here hx rfl (hb hby at_74) rfl ?_
      show Steps p.tables e below (s₁.setTop (mkF m 75 #[.val (.int pd), .val (.int pg), .val (.int pn), .val (.int pe), .val (.int ph), .val (.int pz), .val (.int x1), .val (.int x2), .val (.int x3), .val (.int v4), .val (.int v6), .unset, .unset, .unset, .unset, .unset] [(.int (((ph.toUInt32 >>> ((16 : Int32) &&& 31).toUInt32).toInt32) &&& (65535 : Int32)))])) _
      have qv8 : v8 = (((ph.toUInt32 >>> ((16 : Int32) &&& 31).toUInt32).toInt32) &&& (65535 : Int32)) := by rw [hv8, if_pos hc9]
      subst qv8
      exact k
    · refine XS.ifNo X0.here hx rfl (hb hby at_59) rfl ((if0 _ _).trans (feq hc9).1) ?_
      show Steps p.tables e below (s₁.setTop (mkF m 62 #[.val (.int pd), .val (.int pg), .val (.int pn), .val (.int pe), .val (.int ph), .val (.int pz), .val (.int x1), .val (.int x2), .val (.int x3), .val (.int v4), .val (.int v6), .unset, .unset, .unset, .unset, .unset] [])) _
      refine XS.iload X0.here hx rfl (hb hby at_62) rfl ?_
      show Steps p.tables e below (s₁.setTop (mkF m 64 #[.val (.int pd), .val (.int pg), .val (.int pn), .val (.int pe), .val (.int ph), .val (.int pz), .val (.int x1), .val (.int x2), .val (.int x3), .val (.int v4), .val (.int v6), .unset, .unset, .unset, .unset, .unset] [(.int x3)])) _
      refine XS.goto X0.here hx rfl (pc0 := 64) (pc' := 75) rfl (hb hby at_64) (by decide) (by decide) ?_
      show Steps p.tables e below (s₁.setTop (mkF m 75 #[.val (.int pd), .val (.int pg), .val (.int pn), .val (.int pe), .val (.int ph), .val (.int pz), .val (.int x1), .val (.int x2), .val (.int x3), .val (.int v4), .val (.int v6), .unset, .unset, .unset, .unset, .unset] [(.int x3)])) _
      have qv8 : v8 = x3 := by rw [hv8, if_neg hc9]
      subst qv8
      exact k
  show Goes p.tables e below (s₁.setTop (mkF m 75 #[.val (.int pd), .val (.int pg), .val (.int pn), .val (.int pe), .val (.int ph), .val (.int pz), .val (.int x1), .val (.int x2), .val (.int x3), .val (.int v4), .val (.int v6), .unset, .unset, .unset, .unset, .unset] [(.int v8)])) _
  refine Goes.by (fun _ k => XS.istore X0.here hx rfl (hb hby at_75) rfl (l' := #[.val (.int pd), .val (.int pg), .val (.int pn), .val (.int pe), .val (.int ph), .val (.int pz), .val (.int x1), .val (.int x2), .val (.int x3), .val (.int v4), .val (.int v6), .val (.int v8), .unset, .unset, .unset, .unset]) rfl k) ?_
  show Goes p.tables e below (s₁.setTop (mkF m 77 #[.val (.int pd), .val (.int pg), .val (.int pn), .val (.int pe), .val (.int ph), .val (.int pz), .val (.int x1), .val (.int x2), .val (.int x3), .val (.int v4), .val (.int v6), .val (.int v8), .unset, .unset, .unset, .unset] [])) _
  refine Goes.by (fun _ k => XS.iload X0.here hx rfl (hb hby at_77) rfl k) ?_
  show Goes p.tables e below (s₁.setTop (mkF m 79 #[.val (.int pd), .val (.int pg), .val (.int pn), .val (.int pe), .val (.int ph), .val (.int pz), .val (.int x1), .val (.int x2), .val (.int x3), .val (.int v4), .val (.int v6), .val (.int v8), .unset, .unset, .unset, .unset] [(.int pz)])) _
  refine Goes.by (fun _ k => XS.iconst X0.here hx rfl (hb hby at_79) k) ?_
  show Goes p.tables e below (s₁.setTop (mkF m 80 #[.val (.int pd), .val (.int pg), .val (.int pn), .val (.int pe), .val (.int ph), .val (.int pz), .val (.int x1), .val (.int x2), .val (.int x3), .val (.int v4), .val (.int v6), .val (.int v8), .unset, .unset, .unset, .unset] [(.int (3 : Int32)), (.int pz)])) _
  refine Goes.by (fun _ k => XS.iushr X0.here hx rfl (hb hby at_80) rfl k) ?_
  show Goes p.tables e below (s₁.setTop (mkF m 81 #[.val (.int pd), .val (.int pg), .val (.int pn), .val (.int pe), .val (.int ph), .val (.int pz), .val (.int x1), .val (.int x2), .val (.int x3), .val (.int v4), .val (.int v6), .val (.int v8), .unset, .unset, .unset, .unset] [(.int ((pz.toUInt32 >>> ((3 : Int32) &&& 31).toUInt32).toInt32))])) _
  refine Goes.by (fun _ k => XS.iconst X0.here hx rfl (hb hby at_81) k) ?_
  show Goes p.tables e below (s₁.setTop (mkF m 82 #[.val (.int pd), .val (.int pg), .val (.int pn), .val (.int pe), .val (.int ph), .val (.int pz), .val (.int x1), .val (.int x2), .val (.int x3), .val (.int v4), .val (.int v6), .val (.int v8), .unset, .unset, .unset, .unset] [(.int (3 : Int32)), (.int ((pz.toUInt32 >>> ((3 : Int32) &&& 31).toUInt32).toInt32))])) _
  refine Goes.by (fun _ k => XS.iand X0.here hx rfl (hb hby at_82) rfl k) ?_
  show Goes p.tables e below (s₁.setTop (mkF m 83 #[.val (.int pd), .val (.int pg), .val (.int pn), .val (.int pe), .val (.int ph), .val (.int pz), .val (.int x1), .val (.int x2), .val (.int x3), .val (.int v4), .val (.int v6), .val (.int v8), .unset, .unset, .unset, .unset] [(.int (((pz.toUInt32 >>> ((3 : Int32) &&& 31).toUInt32).toInt32) &&& (3 : Int32)))])) _
  obtain ⟨x10, hx10⟩ : ∃ z : Int32, z = (((pz.toUInt32 >>> ((3 : Int32) &&& 31).toUInt32).toInt32) &&& (3 : Int32)) := ⟨_, rfl⟩
  refine Goes.by (fun _ k => XS.istore X0.here hx rfl (hb hby at_83) rfl (l' := #[.val (.int pd), .val (.int pg), .val (.int pn), .val (.int pe), .val (.int ph), .val (.int pz), .val (.int x1), .val (.int x2), .val (.int x3), .val (.int v4), .val (.int v6), .val (.int v8), .val (.int x10), .unset, .unset, .unset]) (by rw [hx10]; rfl) k) ?_
  show Goes p.tables e below (s₁.setTop (mkF m 85 #[.val (.int pd), .val (.int pg), .val (.int pn), .val (.int pe), .val (.int ph), .val (.int pz), .val (.int x1), .val (.int x2), .val (.int x3), .val (.int v4), .val (.int v6), .val (.int v8), .val (.int x10), .unset, .unset, .unset] [])) _
  obtain ⟨T11, h11, X11, e11, E11, A11, D11, -, st11⟩ := newO X0 hx hZ hown (hw _ (List.mem_of_getElem? (i := 2) rfl)) (hw _ (List.mem_of_getElem? (i := 3) rfl)) (hw _ (List.mem_of_getElem? (i := 4) rfl)) e0 (g := (mkF m 85 #[.val (.int pd), .val (.int pg), .val (.int pn), .val (.int pe), .val (.int ph), .val (.int pz), .val (.int x1), .val (.int x2), .val (.int x3), .val (.int v4), .val (.int v6), .val (.int v8), .val (.int x10), .unset, .unset, .unset] [])) rfl (hb hby at_85) (by decide) (by decide)
  obtain ⟨b11, g11⟩ : ∃ z, z = h0.size := ⟨_, rfl⟩
  rw [← g11] at A11 D11 st11
  have g_b11 : n0 ≤ b11 := Nat.le_trans Z0 (Nat.le_of_eq g11.symm)
  have sz_b11 : h0.size ≤ b11 := Nat.le_trans (Keep.refl h0 []).1 (Nat.le_of_eq g11.symm)
  have Zs11 : n0 ≤ h11.size := Nat.le_trans Z0 E11.1
  have K11 : Keep h0 h11 [] := (Keep.refl h0 []).ext E11
  refine Goes.by st11 ?_
  have O : Old Z n0 h11 := O.ext E11
  have E_b11 : Exa Z h11 b11 "castkey/card/KeyId" := A11
  have F_b11_keyDomainId : Fld Z h11 b11 "castkey/card/KeyId" "keyDomainId" "I" (.int (0 : Int32)) := D11 (Or.inr (hw _ (List.mem_of_getElem? (i := 19) rfl))) (ty := .int) (by decide)
  have F_b11_keyGroup : Fld Z h11 b11 "castkey/card/KeyId" "keyGroup" "I" (.int (0 : Int32)) := D11 (Or.inr (hw _ (List.mem_of_getElem? (i := 21) rfl))) (ty := .int) (by decide)
  have F_b11_keyNumber : Fld Z h11 b11 "castkey/card/KeyId" "keyNumber" "I" (.int (0 : Int32)) := D11 (Or.inr (hw _ (List.mem_of_getElem? (i := 23) rfl))) (ty := .int) (by decide)
  show Goes p.tables e below (T11.setTop (mkF m 88 #[.val (.int pd), .val (.int pg), .val (.int pn), .val (.int pe), .val (.int ph), .val (.int pz), .val (.int x1), .val (.int x2), .val (.int x3), .val (.int v4), .val (.int v6), .val (.int v8), .val (.int x10), .unset, .unset, .unset] [(.ref b11)])) _
  refine Goes.by (fun _ k => XS.dup X11.here hx rfl (hb hby at_88) rfl rfl k) ?_
  show Goes p.tables e below (T11.setTop (mkF m 89 #[.val (.int pd), .val (.int pg), .val (.int pn), .val (.int pe), .val (.int ph), .val (.int pz), .val (.int x1), .val (.int x2), .val (.int x3), .val (.int v4), .val (.int v6), .val (.int v8), .val (.int x10), .unset, .unset, .unset] [(.ref b11), (.ref b11)])) _
  refine Goes.by (fun _ k => XS.iload X11.here hx rfl (hb hby at_89) rfl k) ?_
  show Goes p.tables e below (T11.setTop (mkF m 91 #[.val (.int pd), .val (.int pg), .val (.int pn), .val (.int pe), .val (.int ph), .val (.int pz), .val (.int x1), .val (.int x2), .val (.int x3), .val (.int v4), .val (.int v6), .val (.int v8), .val (.int x10), .unset, .unset, .unset] [(.int x1), (.ref b11), (.ref b11)])) _
  refine Goes.by (fun _ k => XS.iload X11.here hx rfl (hb hby at_91) rfl k) ?_
  show Goes p.tables e below (T11.setTop (mkF m 93 #[.val (.int pd), .val (.int pg), .val (.int pn), .val (.int pe), .val (.int ph), .val (.int pz), .val (.int x1), .val (.int x2), .val (.int x3), .val (.int v4), .val (.int v6), .val (.int v8), .val (.int x10), .unset, .unset, .unset] [(.int x2), (.int x1), (.ref b11), (.ref b11)])) _
  refine Goes.by (fun _ k => XS.iload X11.here hx rfl (hb hby at_93) rfl k) ?_
  show Goes p.tables e below (T11.setTop (mkF m 95 #[.val (.int pd), .val (.int pg), .val (.int pn), .val (.int pe), .val (.int ph), .val (.int pz), .val (.int x1), .val (.int x2), .val (.int x3), .val (.int v4), .val (.int v6), .val (.int v8), .val (.int x10), .unset, .unset, .unset] [(.int x3), (.int x2), (.int x1), (.ref b11), (.ref b11)])) _
  obtain ⟨_, _, ⟨T12, L12, k12, n12⟩, -, X12, ⟨Lc12, hQ12, l12, y12, z12⟩, st12⟩ := X11.specialBack hx (y := (⟨"castkey/card/KeyId", "<init>", "(III)V"⟩ : MethodName)) rfl hown (mvT hZ (hw _ (List.mem_of_getElem? (i := 5) rfl))) (mvT hZ (hw _ (List.mem_of_getElem? (i := 6) rfl))) (mvT hZ (hw _ (List.mem_of_getElem? (i := 7) rfl))) (by decide) (backOf (W := 1) (rm1 l Z a0 hw [] b11 x1 x2 x3 h11 n0 Zs11 E_b11 F_b11_keyDomainId F_b11_keyGroup F_b11_keyNumber g_b11 (by rw [hx1]; exact (own_m24 _).1) (by rw [hx1]; exact (own_m24 _).2) (by rw [hx2]; exact (own_m16 _).1) (by rw [hx2]; exact (own_m16 _).2) (by rw [hx3]; exact (own_m16 _).1) (by rw [hx3]; exact (own_m16 _).2)) hZ (hw _ (List.mem_of_getElem? (i := 7) rfl)) (hw _ (List.mem_of_getElem? (i := 4) rfl)) (by decide) (by decide)) (g := (mkF m 95 #[.val (.int pd), .val (.int pg), .val (.int pn), .val (.int pe), .val (.int ph), .val (.int pz), .val (.int x1), .val (.int x2), .val (.int x3), .val (.int v4), .val (.int v6), .val (.int v8), .val (.int x10), .unset, .unset, .unset] [(.int x3), (.int x2), (.int x1), (.ref b11), (.ref b11)])) rfl (by rw [hml]; rfl) (Steps.refl _) (a := b11) (argsL := [(.int x1), (.int x2), (.int x3)]) (rest := [(.ref b11)]) (lenOf pd_2 rfl) rfl (by show 2 * 0 + _ ≤ _; exact Nat.le_of_eq rfl) (hb hby at_95) (fun _ _ => ⟨rfl, e11, (by decide : 1 + 0 ≤ _), (by decide : 3 + 0 ≤ _)⟩)
  dsimp only [Pt.U, Pt.locs, Pt.cells, Pt.slots] at X12 l12 y12 z12 st12 hQ12
  subst l12 y12 z12
  obtain ⟨rfl, N12q, Kq12, po12_0, po12_1, po12_2, po12_3⟩ := hQ12
  have N12 := Fr.app N0 N12q
  refine Goes.via st12 ?_
  have Zs12 : n0 ≤ T12.heap.size := Nat.le_trans Zs11 Kq12.1
  have K12 : Keep h0 T12.heap [] := K11.trans Kq12 (allS (Or.inr sz_b11) all0)
  have O : Old Z n0 T12.heap := O.keep Kq12 (allS g_b11 all0)
  have E_b11 : Exa Z T12.heap b11 "castkey/card/KeyId" := E_b11.keep Kq12
  have E_b11 : Exa Z T12.heap b11 "castkey/card/KeyId" := po12_0
  have F_b11_keyDomainId : Fld Z T12.heap b11 "castkey/card/KeyId" "keyDomainId" "I" (.int x1) := po12_1
  have F_b11_keyGroup : Fld Z T12.heap b11 "castkey/card/KeyId" "keyGroup" "I" (.int x2) := po12_2
  have F_b11_keyNumber : Fld Z T12.heap b11 "castkey/card/KeyId" "keyNumber" "I" (.int x3) := po12_3
  show Goes p.tables e below (T12.setTop (mkF m 98 #[.val (.int pd), .val (.int pg), .val (.int pn), .val (.int pe), .val (.int ph), .val (.int pz), .val (.int x1), .val (.int x2), .val (.int x3), .val (.int v4), .val (.int v6), .val (.int v8), .val (.int x10), .unset, .unset, .unset] [(.ref b11)])) _
  refine Goes.by (fun _ k => XS.astore X12.here hx rfl (hb hby at_98) rfl rfl (l' := #[.val (.int pd), .val (.int pg), .val (.int pn), .val (.int pe), .val (.int ph), .val (.int pz), .val (.int x1), .val (.int x2), .val (.int x3), .val (.int v4), .val (.int v6), .val (.int v8), .val (.int x10), .val (.ref b11), .unset, .unset]) rfl k) ?_
  show Goes p.tables e below (T12.setTop (mkF m 100 #[.val (.int pd), .val (.int pg), .val (.int pn), .val (.int pe), .val (.int ph), .val (.int pz), .val (.int x1), .val (.int x2), .val (.int x3), .val (.int v4), .val (.int v6), .val (.int v8), .val (.int x10), .val (.ref b11), .unset, .unset] [])) _
  refine Goes.by (fun _ k => XS.iload X12.here hx rfl (hb hby at_100) rfl k) ?_
  show Goes p.tables e below (T12.setTop (mkF m 102 #[.val (.int pd), .val (.int pg), .val (.int pn), .val (.int pe), .val (.int ph), .val (.int pz), .val (.int x1), .val (.int x2), .val (.int x3), .val (.int v4), .val (.int v6), .val (.int v8), .val (.int x10), .val (.ref b11), .unset, .unset] [(.int x10)])) _
  by_cases hc13 : x10 = (0 : Int32)
  · refine Goes.by (fun _ k => XS.ifNo X12.here hx rfl (hb hby at_102) rfl ((if0 _ _).trans (teq hc13).2) k) ?_
    show Goes p.tables e below (T12.setTop (mkF m 105 #[.val (.int pd), .val (.int pg), .val (.int pn), .val (.int pe), .val (.int ph), .val (.int pz), .val (.int x1), .val (.int x2), .val (.int x3), .val (.int v4), .val (.int v6), .val (.int v8), .val (.int x10), .val (.ref b11), .unset, .unset] [])) _
    obtain ⟨T14, h14, X14, e14, E14, A14, D14, -, st14⟩ := newO X12 hx hZ hown (hw _ (List.mem_of_getElem? (i := 2) rfl)) (hw _ (List.mem_of_getElem? (i := 3) rfl)) (hw _ (List.mem_of_getElem? (i := 4) rfl)) rfl (g := (mkF m 105 #[.val (.int pd), .val (.int pg), .val (.int pn), .val (.int pe), .val (.int ph), .val (.int pz), .val (.int x1), .val (.int x2), .val (.int x3), .val (.int v4), .val (.int v6), .val (.int v8), .val (.int x10), .val (.ref b11), .unset, .unset] [])) rfl (hb hby at_105) (by decide) (by decide)
    obtain ⟨b14, g14⟩ : ∃ z, z = T12.heap.size := ⟨_, rfl⟩
    rw [← g14] at A14 D14 st14
    have g_b14 : n0 ≤ b14 := Nat.le_trans Zs12 (Nat.le_of_eq g14.symm)
    have sz_b14 : h0.size ≤ b14 := Nat.le_trans K12.1 (Nat.le_of_eq g14.symm)
    have ne_b11_b14 : b11 ≠ b14 := Nat.ne_of_lt (Nat.lt_of_lt_of_le E_b11.lt (Nat.le_of_eq g14.symm))
    have Zs14 : n0 ≤ h14.size := Nat.le_trans Zs12 E14.1
    have K14 : Keep h0 h14 [] := K12.ext E14
    refine Goes.by st14 ?_
    have O : Old Z n0 h14 := O.ext E14
    have E_b11 : Exa Z h14 b11 "castkey/card/KeyId" := E_b11.ext E14
    have F_b11_keyDomainId : Fld Z h14 b11 "castkey/card/KeyId" "keyDomainId" "I" (.int x1) := F_b11_keyDomainId.ext E14
    have F_b11_keyGroup : Fld Z h14 b11 "castkey/card/KeyId" "keyGroup" "I" (.int x2) := F_b11_keyGroup.ext E14
    have F_b11_keyNumber : Fld Z h14 b11 "castkey/card/KeyId" "keyNumber" "I" (.int x3) := F_b11_keyNumber.ext E14
    have E_b14 : Exa Z h14 b14 "castkey/card/KeyId" := A14
    have F_b14_keyDomainId : Fld Z h14 b14 "castkey/card/KeyId" "keyDomainId" "I" (.int (0 : Int32)) := D14 (Or.inr (hw _ (List.mem_of_getElem? (i := 19) rfl))) (ty := .int) (by decide)
    have F_b14_keyGroup : Fld Z h14 b14 "castkey/card/KeyId" "keyGroup" "I" (.int (0 : Int32)) := D14 (Or.inr (hw _ (List.mem_of_getElem? (i := 21) rfl))) (ty := .int) (by decide)
    have F_b14_keyNumber : Fld Z h14 b14 "castkey/card/KeyId" "keyNumber" "I" (.int (0 : Int32)) := D14 (Or.inr (hw _ (List.mem_of_getElem? (i := 23) rfl))) (ty := .int) (by decide)
    show Goes p.tables e below (T14.setTop (mkF m 108 #[.val (.int pd), .val (.int pg), .val (.int pn), .val (.int pe), .val (.int ph), .val (.int pz), .val (.int x1), .val (.int x2), .val (.int x3), .val (.int v4), .val (.int v6), .val (.int v8), .val (.int x10), .val (.ref b11), .unset, .unset] [(.ref b14)])) _
    refine Goes.by (fun _ k => XS.dup X14.here hx rfl (hb hby at_108) rfl rfl k) ?_
    show Goes p.tables e below (T14.setTop (mkF m 109 #[.val (.int pd), .val (.int pg), .val (.int pn), .val (.int pe), .val (.int ph), .val (.int pz), .val (.int x1), .val (.int x2), .val (.int x3), .val (.int v4), .val (.int v6), .val (.int v8), .val (.int x10), .val (.ref b11), .unset, .unset] [(.ref b14), (.ref b14)])) _
    refine Goes.by (fun _ k => XS.iload X14.here hx rfl (hb hby at_109) rfl k) ?_
    show Goes p.tables e below (T14.setTop (mkF m 111 #[.val (.int pd), .val (.int pg), .val (.int pn), .val (.int pe), .val (.int ph), .val (.int pz), .val (.int x1), .val (.int x2), .val (.int x3), .val (.int v4), .val (.int v6), .val (.int v8), .val (.int x10), .val (.ref b11), .unset, .unset] [(.int v4), (.ref b14), (.ref b14)])) _
    refine Goes.by (fun _ k => XS.iload X14.here hx rfl (hb hby at_111) rfl k) ?_
    show Goes p.tables e below (T14.setTop (mkF m 113 #[.val (.int pd), .val (.int pg), .val (.int pn), .val (.int pe), .val (.int ph), .val (.int pz), .val (.int x1), .val (.int x2), .val (.int x3), .val (.int v4), .val (.int v6), .val (.int v8), .val (.int x10), .val (.ref b11), .unset, .unset] [(.int v6), (.int v4), (.ref b14), (.ref b14)])) _
    refine Goes.by (fun _ k => XS.iload X14.here hx rfl (hb hby at_113) rfl k) ?_
    show Goes p.tables e below (T14.setTop (mkF m 115 #[.val (.int pd), .val (.int pg), .val (.int pn), .val (.int pe), .val (.int ph), .val (.int pz), .val (.int x1), .val (.int x2), .val (.int x3), .val (.int v4), .val (.int v6), .val (.int v8), .val (.int x10), .val (.ref b11), .unset, .unset] [(.int v8), (.int v6), (.int v4), (.ref b14), (.ref b14)])) _
    obtain ⟨_, _, ⟨T15, L15, k15, n15⟩, -, X15, ⟨Lc15, hQ15, l15, y15, z15⟩, st15⟩ := X14.specialBack hx (y := (⟨"castkey/card/KeyId", "<init>", "(III)V"⟩ : MethodName)) rfl hown (mvT hZ (hw _ (List.mem_of_getElem? (i := 5) rfl))) (mvT hZ (hw _ (List.mem_of_getElem? (i := 6) rfl))) (mvT hZ (hw _ (List.mem_of_getElem? (i := 7) rfl))) (by decide) (backOf (W := 1) (rm1 l Z a0 hw [] b14 v4 v6 v8 h14 n0 Zs14 E_b14 F_b14_keyDomainId F_b14_keyGroup F_b14_keyNumber g_b14 (by rw [hv4, hx1]; split <;> exact (own_m24 _).1) (by rw [hv4, hx1]; split <;> exact (own_m24 _).2) (by rw [hv6, hx2]; split <;> exact (own_m16 _).1) (by rw [hv6, hx2]; split <;> exact (own_m16 _).2) (by rw [hv8, hx3]; split <;> exact (own_m16 _).1) (by rw [hv8, hx3]; split <;> exact (own_m16 _).2)) hZ (hw _ (List.mem_of_getElem? (i := 7) rfl)) (hw _ (List.mem_of_getElem? (i := 4) rfl)) (by decide) (by decide)) (g := (mkF m 115 #[.val (.int pd), .val (.int pg), .val (.int pn), .val (.int pe), .val (.int ph), .val (.int pz), .val (.int x1), .val (.int x2), .val (.int x3), .val (.int v4), .val (.int v6), .val (.int v8), .val (.int x10), .val (.ref b11), .unset, .unset] [(.int v8), (.int v6), (.int v4), (.ref b14), (.ref b14)])) rfl (by rw [hml]; rfl) (Steps.refl _) (a := b14) (argsL := [(.int v4), (.int v6), (.int v8)]) (rest := [(.ref b14)]) (lenOf pd_2 rfl) rfl (by show 2 * 0 + _ ≤ _; exact Nat.le_of_eq rfl) (hb hby at_115) (fun _ _ => ⟨rfl, e14, (by decide : 2 + 0 ≤ _), (by decide : 6 + 0 ≤ _)⟩)
    dsimp only [Pt.U, Pt.locs, Pt.cells, Pt.slots] at X15 l15 y15 z15 st15 hQ15
    subst l15 y15 z15
    obtain ⟨rfl, N15q, Kq15, po15_0, po15_1, po15_2, po15_3⟩ := hQ15
    have N15 := Fr.app N12 N15q
    refine Goes.via st15 ?_
    have Zs15 : n0 ≤ T15.heap.size := Nat.le_trans Zs14 Kq15.1
    have K15 : Keep h0 T15.heap [] := K14.trans Kq15 (allS (Or.inr sz_b14) all0)
    have O : Old Z n0 T15.heap := O.keep Kq15 (allS g_b14 all0)
    have E_b11 : Exa Z T15.heap b11 "castkey/card/KeyId" := E_b11.keep Kq15
    have F_b11_keyDomainId : Fld Z T15.heap b11 "castkey/card/KeyId" "keyDomainId" "I" (.int x1) := F_b11_keyDomainId.keep Kq15 (ninS ne_b11_b14 nin0)
    have F_b11_keyGroup : Fld Z T15.heap b11 "castkey/card/KeyId" "keyGroup" "I" (.int x2) := F_b11_keyGroup.keep Kq15 (ninS ne_b11_b14 nin0)
    have F_b11_keyNumber : Fld Z T15.heap b11 "castkey/card/KeyId" "keyNumber" "I" (.int x3) := F_b11_keyNumber.keep Kq15 (ninS ne_b11_b14 nin0)
    have E_b14 : Exa Z T15.heap b14 "castkey/card/KeyId" := E_b14.keep Kq15
    have E_b14 : Exa Z T15.heap b14 "castkey/card/KeyId" := po15_0
    have F_b14_keyDomainId : Fld Z T15.heap b14 "castkey/card/KeyId" "keyDomainId" "I" (.int v4) := po15_1
    have F_b14_keyGroup : Fld Z T15.heap b14 "castkey/card/KeyId" "keyGroup" "I" (.int v6) := po15_2
    have F_b14_keyNumber : Fld Z T15.heap b14 "castkey/card/KeyId" "keyNumber" "I" (.int v8) := po15_3
    show Goes p.tables e below (T15.setTop (mkF m 118 #[.val (.int pd), .val (.int pg), .val (.int pn), .val (.int pe), .val (.int ph), .val (.int pz), .val (.int x1), .val (.int x2), .val (.int x3), .val (.int v4), .val (.int v6), .val (.int v8), .val (.int x10), .val (.ref b11), .unset, .unset] [(.ref b14)])) _
    refine Goes.by (fun _ k => XS.astore X15.here hx rfl (hb hby at_118) rfl rfl (l' := #[.val (.int pd), .val (.int pg), .val (.int pn), .val (.int pe), .val (.int ph), .val (.int pz), .val (.int x1), .val (.int x2), .val (.int x3), .val (.int v4), .val (.int v6), .val (.int v8), .val (.int x10), .val (.ref b11), .val (.ref b14), .unset]) rfl k) ?_
    show Goes p.tables e below (T15.setTop (mkF m 120 #[.val (.int pd), .val (.int pg), .val (.int pn), .val (.int pe), .val (.int ph), .val (.int pz), .val (.int x1), .val (.int x2), .val (.int x3), .val (.int v4), .val (.int v6), .val (.int v8), .val (.int x10), .val (.ref b11), .val (.ref b14), .unset] [])) _
    refine Goes.by (fun _ k => XS.iload X15.here hx rfl (hb hby at_120) rfl k) ?_
    show Goes p.tables e below (T15.setTop (mkF m 122 #[.val (.int pd), .val (.int pg), .val (.int pn), .val (.int pe), .val (.int ph), .val (.int pz), .val (.int x1), .val (.int x2), .val (.int x3), .val (.int v4), .val (.int v6), .val (.int v8), .val (.int x10), .val (.ref b11), .val (.ref b14), .unset] [(.int x1)])) _
    refine Goes.by (fun _ k => XS.iload X15.here hx rfl (hb hby at_122) rfl k) ?_
    show Goes p.tables e below (T15.setTop (mkF m 124 #[.val (.int pd), .val (.int pg), .val (.int pn), .val (.int pe), .val (.int ph), .val (.int pz), .val (.int x1), .val (.int x2), .val (.int x3), .val (.int v4), .val (.int v6), .val (.int v8), .val (.int x10), .val (.ref b11), .val (.ref b14), .unset] [(.int v4), (.int x1)])) _
    obtain ⟨v16, hv16⟩ : ∃ z : Int32, z = (if x1 = v4 then (if x2 = v6 then (if x3 = v8 then (1 : Int32) else (0 : Int32)) else (0 : Int32)) else (0 : Int32)) := ⟨_, rfl⟩
    refine Goes.by (t' := T15.setTop (mkF m 146 #[.val (.int pd), .val (.int pg), .val (.int pn), .val (.int pe), .val (.int ph), .val (.int pz), .val (.int x1), .val (.int x2), .val (.int x3), .val (.int v4), .val (.int v6), .val (.int v8), .val (.int x10), .val (.ref b11), .val (.ref b14), .unset] [(.int v16)])) (fun u k => ?_) ?_
    · show Steps p.tables e below (T15.setTop (mkF m 124 #[.val (.int pd), .val (.int pg), .val (.int pn), .val (.int pe), .val (.int ph), .val (.int pz), .val (.int x1), .val (.int x2), .val (.int x3), .val (.int v4), .val (.int v6), .val (.int v8), .val (.int x10), .val (.ref b11), .val (.ref b14), .unset] [(.int v4), (.int x1)])) _
      by_cases hc17 : x1 = v4
      · refine XS.icmpNo X15.here hx rfl (hb hby at_124) rfl (teq hc17).2 ?_
        show Steps p.tables e below (T15.setTop (mkF m 127 #[.val (.int pd), .val (.int pg), .val (.int pn), .val (.int pe), .val (.int ph), .val (.int pz), .val (.int x1), .val (.int x2), .val (.int x3), .val (.int v4), .val (.int v6), .val (.int v8), .val (.int x10), .val (.ref b11), .val (.ref b14), .unset] [])) _
        refine XS.iload X15.here hx rfl (hb hby at_127) rfl ?_
        show Steps p.tables e below (T15.setTop (mkF m 129 #[.val (.int pd), .val (.int pg), .val (.int pn), .val (.int pe), .val (.int ph), .val (.int pz), .val (.int x1), .val (.int x2), .val (.int x3), .val (.int v4), .val (.int v6), .val (.int v8), .val (.int x10), .val (.ref b11), .val (.ref b14), .unset] [(.int x2)])) _
        refine XS.iload X15.here hx rfl (hb hby at_129) rfl ?_
        show Steps p.tables e below (T15.setTop (mkF m 131 #[.val (.int pd), .val (.int pg), .val (.int pn), .val (.int pe), .val (.int ph), .val (.int pz), .val (.int x1), .val (.int x2), .val (.int x3), .val (.int v4), .val (.int v6), .val (.int v8), .val (.int x10), .val (.ref b11), .val (.ref b14), .unset] [(.int v6), (.int x2)])) _
        by_cases hc18 : x2 = v6
        · refine XS.icmpNo X15.here hx rfl (hb hby at_131) rfl (teq hc18).2 ?_
          show Steps p.tables e below (T15.setTop (mkF m 134 #[.val (.int pd), .val (.int pg), .val (.int pn), .val (.int pe), .val (.int ph), .val (.int pz), .val (.int x1), .val (.int x2), .val (.int x3), .val (.int v4), .val (.int v6), .val (.int v8), .val (.int x10), .val (.ref b11), .val (.ref b14), .unset] [])) _
          refine XS.iload X15.here hx rfl (hb hby at_134) rfl ?_
          show Steps p.tables e below (T15.setTop (mkF m 136 #[.val (.int pd), .val (.int pg), .val (.int pn), .val (.int pe), .val (.int ph), .val (.int pz), .val (.int x1), .val (.int x2), .val (.int x3), .val (.int v4), .val (.int v6), .val (.int v8), .val (.int x10), .val (.ref b11), .val (.ref b14), .unset] [(.int x3)])) _
          refine XS.iload X15.here hx rfl (hb hby at_136) rfl ?_
          show Steps p.tables e below (T15.setTop (mkF m 138 #[.val (.int pd), .val (.int pg), .val (.int pn), .val (.int pe), .val (.int ph), .val (.int pz), .val (.int x1), .val (.int x2), .val (.int x3), .val (.int v4), .val (.int v6), .val (.int v8), .val (.int x10), .val (.ref b11), .val (.ref b14), .unset] [(.int v8), (.int x3)])) _
          by_cases hc19 : x3 = v8
          · refine XS.icmpNo X15.here hx rfl (hb hby at_138) rfl (teq hc19).2 ?_
            show Steps p.tables e below (T15.setTop (mkF m 141 #[.val (.int pd), .val (.int pg), .val (.int pn), .val (.int pe), .val (.int ph), .val (.int pz), .val (.int x1), .val (.int x2), .val (.int x3), .val (.int v4), .val (.int v6), .val (.int v8), .val (.int x10), .val (.ref b11), .val (.ref b14), .unset] [])) _
            refine XS.iconst X15.here hx rfl (hb hby at_141) ?_
            show Steps p.tables e below (T15.setTop (mkF m 142 #[.val (.int pd), .val (.int pg), .val (.int pn), .val (.int pe), .val (.int ph), .val (.int pz), .val (.int x1), .val (.int x2), .val (.int x3), .val (.int v4), .val (.int v6), .val (.int v8), .val (.int x10), .val (.ref b11), .val (.ref b14), .unset] [(.int (1 : Int32))])) _
            refine XS.goto X15.here hx rfl (pc0 := 142) (pc' := 146) rfl (hb hby at_142) (by decide) (by decide) ?_
            show Steps p.tables e below (T15.setTop (mkF m 146 #[.val (.int pd), .val (.int pg), .val (.int pn), .val (.int pe), .val (.int ph), .val (.int pz), .val (.int x1), .val (.int x2), .val (.int x3), .val (.int v4), .val (.int v6), .val (.int v8), .val (.int x10), .val (.ref b11), .val (.ref b14), .unset] [(.int (1 : Int32))])) _
            have qv16 : v16 = (1 : Int32) := by rw [hv16, if_pos hc17, if_pos hc18, if_pos hc19]
            subst qv16
            exact k
          · refine XS.icmpYes X15.here hx rfl (pc0 := 138) (pc' := 145) rfl (hb hby at_138) rfl (feq hc19).2 (by decide) (by decide) ?_
            show Steps p.tables e below (T15.setTop (mkF m 145 #[.val (.int pd), .val (.int pg), .val (.int pn), .val (.int pe), .val (.int ph), .val (.int pz), .val (.int x1), .val (.int x2), .val (.int x3), .val (.int v4), .val (.int v6), .val (.int v8), .val (.int x10), .val (.ref b11), .val (.ref b14), .unset] [])) _
            refine XS.iconst X15.here hx rfl (hb hby at_145) ?_
            show Steps p.tables e below (T15.setTop (mkF m 146 #[.val (.int pd), .val (.int pg), .val (.int pn), .val (.int pe), .val (.int ph), .val (.int pz), .val (.int x1), .val (.int x2), .val (.int x3), .val (.int v4), .val (.int v6), .val (.int v8), .val (.int x10), .val (.ref b11), .val (.ref b14), .unset] [(.int (0 : Int32))])) _
            have qv16 : v16 = (0 : Int32) := by rw [hv16, if_pos hc17, if_pos hc18, if_neg hc19]
            subst qv16
            exact k
        · refine XS.icmpYes X15.here hx rfl (pc0 := 131) (pc' := 145) rfl (hb hby at_131) rfl (feq hc18).2 (by decide) (by decide) ?_
          show Steps p.tables e below (T15.setTop (mkF m 145 #[.val (.int pd), .val (.int pg), .val (.int pn), .val (.int pe), .val (.int ph), .val (.int pz), .val (.int x1), .val (.int x2), .val (.int x3), .val (.int v4), .val (.int v6), .val (.int v8), .val (.int x10), .val (.ref b11), .val (.ref b14), .unset] [])) _
          refine XS.iconst X15.here hx rfl (hb hby at_145) ?_
          show Steps p.tables e below (T15.setTop (mkF m 146 #[.val (.int pd), .val (.int pg), .val (.int pn), .val (.int pe), .val (.int ph), .val (.int pz), .val (.int x1), .val (.int x2), .val (.int x3), .val (.int v4), .val (.int v6), .val (.int v8), .val (.int x10), .val (.ref b11), .val (.ref b14), .unset] [(.int (0 : Int32))])) _
          have qv16 : v16 = (0 : Int32) := by rw [hv16, if_pos hc17, if_neg hc18]
          subst qv16
          exact k
      · refine XS.icmpYes X15.here hx rfl (pc0 := 124) (pc' := 145) rfl (hb hby at_124) rfl (feq hc17).2 (by decide) (by decide) ?_
        show Steps p.tables e below (T15.setTop (mkF m 145 #[.val (.int pd), .val (.int pg), .val (.int pn), .val (.int pe), .val (.int ph), .val (.int pz), .val (.int x1), .val (.int x2), .val (.int x3), .val (.int v4), .val (.int v6), .val (.int v8), .val (.int x10), .val (.ref b11), .val (.ref b14), .unset] [])) _
        refine XS.iconst X15.here hx rfl (hb hby at_145) ?_
        show Steps p.tables e below (T15.setTop (mkF m 146 #[.val (.int pd), .val (.int pg), .val (.int pn), .val (.int pe), .val (.int ph), .val (.int pz), .val (.int x1), .val (.int x2), .val (.int x3), .val (.int v4), .val (.int v6), .val (.int v8), .val (.int x10), .val (.ref b11), .val (.ref b14), .unset] [(.int (0 : Int32))])) _
        have qv16 : v16 = (0 : Int32) := by rw [hv16, if_neg hc17]
        subst qv16
        exact k
    show Goes p.tables e below (T15.setTop (mkF m 146 #[.val (.int pd), .val (.int pg), .val (.int pn), .val (.int pe), .val (.int ph), .val (.int pz), .val (.int x1), .val (.int x2), .val (.int x3), .val (.int v4), .val (.int v6), .val (.int v8), .val (.int x10), .val (.ref b11), .val (.ref b14), .unset] [(.int v16)])) _
    refine Goes.by (fun _ k => XS.istore X15.here hx rfl (hb hby at_146) rfl (l' := #[.val (.int pd), .val (.int pg), .val (.int pn), .val (.int pe), .val (.int ph), .val (.int pz), .val (.int x1), .val (.int x2), .val (.int x3), .val (.int v4), .val (.int v6), .val (.int v8), .val (.int x10), .val (.ref b11), .val (.ref b14), .val (.int v16)]) rfl k) ?_
    show Goes p.tables e below (T15.setTop (mkF m 148 #[.val (.int pd), .val (.int pg), .val (.int pn), .val (.int pe), .val (.int ph), .val (.int pz), .val (.int x1), .val (.int x2), .val (.int x3), .val (.int v4), .val (.int v6), .val (.int v8), .val (.int x10), .val (.ref b11), .val (.ref b14), .val (.int v16)] [])) _
    refine Goes.by (fun _ k => XS.aload X15.here hx rfl (hb hby at_148) rfl rfl k) ?_
    show Goes p.tables e below (T15.setTop (mkF m 150 #[.val (.int pd), .val (.int pg), .val (.int pn), .val (.int pe), .val (.int ph), .val (.int pz), .val (.int x1), .val (.int x2), .val (.int x3), .val (.int v4), .val (.int v6), .val (.int v8), .val (.int x10), .val (.ref b11), .val (.ref b14), .val (.int v16)] [(.ref b11)])) _
    refine Goes.by (fun _ k => XS.aload X15.here hx rfl (hb hby at_150) rfl rfl k) ?_
    show Goes p.tables e below (T15.setTop (mkF m 152 #[.val (.int pd), .val (.int pg), .val (.int pn), .val (.int pe), .val (.int ph), .val (.int pz), .val (.int x1), .val (.int x2), .val (.int x3), .val (.int v4), .val (.int v6), .val (.int v8), .val (.int x10), .val (.ref b11), .val (.ref b14), .val (.int v16)] [(.ref b14), (.ref b11)])) _
    obtain ⟨cq20, kq20, q20a, q20b, q20c⟩ := isOf hZ rfl E_b11
    obtain ⟨_, _, ⟨T20, L20, k20, n20⟩, -, X20, ⟨Lc20, hQ20, l20, y20, z20⟩, st20⟩ := X15.virtualBack hx (y := (⟨"castkey/card/KeyId", "equals", "(Ljava/lang/Object;)Z"⟩ : MethodName)) (z := (⟨"castkey/card/KeyId", "equals", "(Ljava/lang/Object;)Z"⟩ : MethodName)) hown (mvT hZ (hw _ (List.mem_of_getElem? (i := 24) rfl))) (mvT hZ (hw _ (List.mem_of_getElem? (i := 25) rfl))) (notFace_of_selects (args := #[]) (mvT hZ (hw _ (List.mem_of_getElem? (i := 27) rfl)))) (mvT hZ (hw _ (List.mem_of_getElem? (i := 27) rfl))) (mvT hZ (hw _ (List.mem_of_getElem? (i := 26) rfl))) (by decide) (backOf (W := 0) (rm4 l Z a0 hw [] b11 b14 x1 x2 x3 v4 v6 v8 T15.heap n0 Zs15 F_b11_keyDomainId F_b11_keyGroup F_b11_keyNumber F_b14_keyDomainId F_b14_keyGroup F_b14_keyNumber E_b14) hZ (hw _ (List.mem_of_getElem? (i := 28) rfl)) (hw _ (List.mem_of_getElem? (i := 4) rfl)) (by decide) (by decide)) q20a q20c (g := (mkF m 152 #[.val (.int pd), .val (.int pg), .val (.int pn), .val (.int pe), .val (.int ph), .val (.int pz), .val (.int x1), .val (.int x2), .val (.int x3), .val (.int v4), .val (.int v6), .val (.int v8), .val (.int x10), .val (.ref b11), .val (.ref b14), .val (.int v16)] [(.ref b14), (.ref b11)])) rfl (by rw [hml]; rfl) (Steps.refl _) (argsL := [(.ref b14)]) (rest := []) (lenOf pd_3 rfl) rfl (by show 2 * 0 + _ ≤ _; exact Nat.le_of_eq rfl) (hb hby at_152) (fun _ _ => ⟨rfl, rfl, (by decide : 2 + 0 ≤ _), (by decide : 6 + 0 ≤ _)⟩)
    dsimp only [Pt.U, Pt.locs, Pt.cells, Pt.slots] at X20 l20 y20 z20 st20 hQ20
    subst l20 y20 z20
    obtain ⟨rfl, N20q, e20⟩ := hQ20
    have N20 := Fr.app N15 N20q
    refine Goes.via st20 ?_
    show Goes p.tables e below (T20.setTop (mkF m 155 #[.val (.int pd), .val (.int pg), .val (.int pn), .val (.int pe), .val (.int ph), .val (.int pz), .val (.int x1), .val (.int x2), .val (.int x3), .val (.int v4), .val (.int v6), .val (.int v8), .val (.int x10), .val (.ref b11), .val (.ref b14), .val (.int v16)] [(.int (fn4 x1 x2 x3 v4 v6 v8))])) _
    refine Goes.by (fun _ k => XS.iload X20.here hx rfl (hb hby at_155) rfl k) ?_
    show Goes p.tables e below (T20.setTop (mkF m 157 #[.val (.int pd), .val (.int pg), .val (.int pn), .val (.int pe), .val (.int ph), .val (.int pz), .val (.int x1), .val (.int x2), .val (.int x3), .val (.int v4), .val (.int v6), .val (.int v8), .val (.int x10), .val (.ref b11), .val (.ref b14), .val (.int v16)] [(.int v16), (.int (fn4 x1 x2 x3 v4 v6 v8))])) _
    refine Goes.by (fun _ k => XS.icmpNo X20.here hx rfl (hb hby at_157) rfl (teq (by rw [hv16]; exact own_exp _ _ _ _ _ _ : (fn4 x1 x2 x3 v4 v6 v8) = v16)).2 k) ?_
    show Goes p.tables e below (T20.setTop (mkF m 160 #[.val (.int pd), .val (.int pg), .val (.int pn), .val (.int pe), .val (.int ph), .val (.int pz), .val (.int x1), .val (.int x2), .val (.int x3), .val (.int v4), .val (.int v6), .val (.int v8), .val (.int x10), .val (.ref b11), .val (.ref b14), .val (.int v16)] [])) _
    refine Goes.by (fun _ k => XS.aload X20.here hx rfl (hb hby at_160) rfl rfl k) ?_
    show Goes p.tables e below (T20.setTop (mkF m 162 #[.val (.int pd), .val (.int pg), .val (.int pn), .val (.int pe), .val (.int ph), .val (.int pz), .val (.int x1), .val (.int x2), .val (.int x3), .val (.int v4), .val (.int v6), .val (.int v8), .val (.int x10), .val (.ref b11), .val (.ref b14), .val (.int v16)] [(.ref b14)])) _
    refine Goes.by (fun _ k => XS.aload X20.here hx rfl (hb hby at_162) rfl rfl k) ?_
    show Goes p.tables e below (T20.setTop (mkF m 164 #[.val (.int pd), .val (.int pg), .val (.int pn), .val (.int pe), .val (.int ph), .val (.int pz), .val (.int x1), .val (.int x2), .val (.int x3), .val (.int v4), .val (.int v6), .val (.int v8), .val (.int x10), .val (.ref b11), .val (.ref b14), .val (.int v16)] [(.ref b11), (.ref b14)])) _
    obtain ⟨cq21, kq21, q21a, q21b, q21c⟩ := isOf hZ e20 E_b14
    obtain ⟨_, _, ⟨T21, L21, k21, n21⟩, -, X21, ⟨Lc21, hQ21, l21, y21, z21⟩, st21⟩ := X20.virtualBack hx (y := (⟨"castkey/card/KeyId", "equals", "(Ljava/lang/Object;)Z"⟩ : MethodName)) (z := (⟨"castkey/card/KeyId", "equals", "(Ljava/lang/Object;)Z"⟩ : MethodName)) hown (mvT hZ (hw _ (List.mem_of_getElem? (i := 24) rfl))) (mvT hZ (hw _ (List.mem_of_getElem? (i := 25) rfl))) (notFace_of_selects (args := #[]) (mvT hZ (hw _ (List.mem_of_getElem? (i := 27) rfl)))) (mvT hZ (hw _ (List.mem_of_getElem? (i := 27) rfl))) (mvT hZ (hw _ (List.mem_of_getElem? (i := 26) rfl))) (by decide) (backOf (W := 0) (rm4 l Z a0 hw [] b14 b11 v4 v6 v8 x1 x2 x3 T15.heap n0 Zs15 F_b14_keyDomainId F_b14_keyGroup F_b14_keyNumber F_b11_keyDomainId F_b11_keyGroup F_b11_keyNumber E_b11) hZ (hw _ (List.mem_of_getElem? (i := 28) rfl)) (hw _ (List.mem_of_getElem? (i := 4) rfl)) (by decide) (by decide)) q21a q21c (g := (mkF m 164 #[.val (.int pd), .val (.int pg), .val (.int pn), .val (.int pe), .val (.int ph), .val (.int pz), .val (.int x1), .val (.int x2), .val (.int x3), .val (.int v4), .val (.int v6), .val (.int v8), .val (.int x10), .val (.ref b11), .val (.ref b14), .val (.int v16)] [(.ref b11), (.ref b14)])) rfl (by rw [hml]; rfl) (Steps.refl _) (argsL := [(.ref b11)]) (rest := []) (lenOf pd_3 rfl) rfl (by show 2 * 0 + _ ≤ _; exact Nat.le_of_eq rfl) (hb hby at_164) (fun _ _ => ⟨rfl, e20, (by decide : 2 + 0 ≤ _), (by decide : 6 + 0 ≤ _)⟩)
    dsimp only [Pt.U, Pt.locs, Pt.cells, Pt.slots] at X21 l21 y21 z21 st21 hQ21
    subst l21 y21 z21
    obtain ⟨rfl, N21q, e21⟩ := hQ21
    have N21 := Fr.app N20 N21q
    refine Goes.via st21 ?_
    show Goes p.tables e below (T21.setTop (mkF m 167 #[.val (.int pd), .val (.int pg), .val (.int pn), .val (.int pe), .val (.int ph), .val (.int pz), .val (.int x1), .val (.int x2), .val (.int x3), .val (.int v4), .val (.int v6), .val (.int v8), .val (.int x10), .val (.ref b11), .val (.ref b14), .val (.int v16)] [(.int (fn4 v4 v6 v8 x1 x2 x3))])) _
    refine Goes.by (fun _ k => XS.iload X21.here hx rfl (hb hby at_167) rfl k) ?_
    show Goes p.tables e below (T21.setTop (mkF m 169 #[.val (.int pd), .val (.int pg), .val (.int pn), .val (.int pe), .val (.int ph), .val (.int pz), .val (.int x1), .val (.int x2), .val (.int x3), .val (.int v4), .val (.int v6), .val (.int v8), .val (.int x10), .val (.ref b11), .val (.ref b14), .val (.int v16)] [(.int v16), (.int (fn4 v4 v6 v8 x1 x2 x3))])) _
    refine Goes.by (fun _ k => XS.icmpNo X21.here hx rfl (hb hby at_169) rfl (teq (by rw [hv16]; exact own_exq _ _ _ _ _ _ : (fn4 v4 v6 v8 x1 x2 x3) = v16)).2 k) ?_
    show Goes p.tables e below (T21.setTop (mkF m 172 #[.val (.int pd), .val (.int pg), .val (.int pn), .val (.int pe), .val (.int ph), .val (.int pz), .val (.int x1), .val (.int x2), .val (.int x3), .val (.int v4), .val (.int v6), .val (.int v8), .val (.int x10), .val (.ref b11), .val (.ref b14), .val (.int v16)] [])) _
    refine Goes.by (fun _ k => XS.iconst X21.here hx rfl (hb hby at_172) k) ?_
    show Goes p.tables e below (T21.setTop (mkF m 173 #[.val (.int pd), .val (.int pg), .val (.int pn), .val (.int pe), .val (.int ph), .val (.int pz), .val (.int x1), .val (.int x2), .val (.int x3), .val (.int v4), .val (.int v6), .val (.int v8), .val (.int x10), .val (.ref b11), .val (.ref b14), .val (.int v16)] [(.int (1 : Int32))])) _
    refine Goes.by (fun _ k => XS.goto X21.here hx rfl (pc0 := 173) (pc' := 177) rfl (hb hby at_173) (by decide) (by decide) k) ?_
    show Goes p.tables e below (T21.setTop (mkF m 177 #[.val (.int pd), .val (.int pg), .val (.int pn), .val (.int pe), .val (.int ph), .val (.int pz), .val (.int x1), .val (.int x2), .val (.int x3), .val (.int v4), .val (.int v6), .val (.int v8), .val (.int x10), .val (.ref b11), .val (.ref b14), .val (.int v16)] [(.int (1 : Int32))])) _
    obtain ⟨fs, hr, hrun, hended, hW, hsame⟩ := X21.leave (v := some (.int (1 : Int32))) (fun h => by rw [Bd.returns] at h; cases h)
    refine ⟨_, _, retN X21 hx (t := .boolean) Bd.returns (by simp) (hb hby at_177) hr, hrun, hended, _, _, rfl, ?_, ⟨_, rfl⟩, hW, hsame.mono (by decide) (by decide)⟩
    show Q0 Z pd pg pn pe ph pz acac h0 n0 _ T21.heap _
    rw [e21]
    exact ⟨rfl, N21⟩
  · refine Goes.by (fun _ k => XS.ifYes X12.here hx rfl (pc0 := 102) (pc' := 178) rfl (hb hby at_102) rfl ((if0 _ _).trans (feq hc13).2) (by decide) (by decide) k) ?_
    show Goes p.tables e below (T12.setTop (mkF m 178 #[.val (.int pd), .val (.int pg), .val (.int pn), .val (.int pe), .val (.int ph), .val (.int pz), .val (.int x1), .val (.int x2), .val (.int x3), .val (.int v4), .val (.int v6), .val (.int v8), .val (.int x10), .val (.ref b11), .unset, .unset] [])) _
    refine Goes.by (fun _ k => XS.iload X12.here hx rfl (hb hby at_178) rfl k) ?_
    show Goes p.tables e below (T12.setTop (mkF m 180 #[.val (.int pd), .val (.int pg), .val (.int pn), .val (.int pe), .val (.int ph), .val (.int pz), .val (.int x1), .val (.int x2), .val (.int x3), .val (.int v4), .val (.int v6), .val (.int v8), .val (.int x10), .val (.ref b11), .unset, .unset] [(.int x10)])) _
    refine Goes.by (fun _ k => XS.iconst X12.here hx rfl (hb hby at_180) k) ?_
    show Goes p.tables e below (T12.setTop (mkF m 181 #[.val (.int pd), .val (.int pg), .val (.int pn), .val (.int pe), .val (.int ph), .val (.int pz), .val (.int x1), .val (.int x2), .val (.int x3), .val (.int v4), .val (.int v6), .val (.int v8), .val (.int x10), .val (.ref b11), .unset, .unset] [(.int (1 : Int32)), (.int x10)])) _
    by_cases hc22 : x10 = (1 : Int32)
    · refine Goes.by (fun _ k => XS.icmpNo X12.here hx rfl (hb hby at_181) rfl (teq hc22).2 k) ?_
      show Goes p.tables e below (T12.setTop (mkF m 184 #[.val (.int pd), .val (.int pg), .val (.int pn), .val (.int pe), .val (.int ph), .val (.int pz), .val (.int x1), .val (.int x2), .val (.int x3), .val (.int v4), .val (.int v6), .val (.int v8), .val (.int x10), .val (.ref b11), .unset, .unset] [])) _
      refine Goes.by (fun _ k => XS.aload X12.here hx rfl (hb hby at_184) rfl rfl k) ?_
      show Goes p.tables e below (T12.setTop (mkF m 186 #[.val (.int pd), .val (.int pg), .val (.int pn), .val (.int pe), .val (.int ph), .val (.int pz), .val (.int x1), .val (.int x2), .val (.int x3), .val (.int v4), .val (.int v6), .val (.int v8), .val (.int x10), .val (.ref b11), .unset, .unset] [(.ref b11)])) _
      refine Goes.by (fun _ k => XS.aconstNull X12.here hx rfl (hb hby at_186) k) ?_
      show Goes p.tables e below (T12.setTop (mkF m 187 #[.val (.int pd), .val (.int pg), .val (.int pn), .val (.int pe), .val (.int ph), .val (.int pz), .val (.int x1), .val (.int x2), .val (.int x3), .val (.int v4), .val (.int v6), .val (.int v8), .val (.int x10), .val (.ref b11), .unset, .unset] [.null, (.ref b11)])) _
      obtain ⟨cq23, kq23, q23a, q23b, q23c⟩ := isOf hZ rfl E_b11
      obtain ⟨_, _, ⟨T23, L23, k23, n23⟩, -, X23, ⟨Lc23, hQ23, l23, y23, z23⟩, st23⟩ := X12.virtualBack hx (y := (⟨"castkey/card/KeyId", "equals", "(Ljava/lang/Object;)Z"⟩ : MethodName)) (z := (⟨"castkey/card/KeyId", "equals", "(Ljava/lang/Object;)Z"⟩ : MethodName)) hown (mvT hZ (hw _ (List.mem_of_getElem? (i := 24) rfl))) (mvT hZ (hw _ (List.mem_of_getElem? (i := 25) rfl))) (notFace_of_selects (args := #[]) (mvT hZ (hw _ (List.mem_of_getElem? (i := 27) rfl)))) (mvT hZ (hw _ (List.mem_of_getElem? (i := 27) rfl))) (mvT hZ (hw _ (List.mem_of_getElem? (i := 26) rfl))) (by decide) (backOf (W := 0) (rm4n l Z a0 hw [] b11 T12.heap n0 Zs12) hZ (hw _ (List.mem_of_getElem? (i := 28) rfl)) (hw _ (List.mem_of_getElem? (i := 4) rfl)) (by decide) (by decide)) q23a q23c (g := (mkF m 187 #[.val (.int pd), .val (.int pg), .val (.int pn), .val (.int pe), .val (.int ph), .val (.int pz), .val (.int x1), .val (.int x2), .val (.int x3), .val (.int v4), .val (.int v6), .val (.int v8), .val (.int x10), .val (.ref b11), .unset, .unset] [.null, (.ref b11)])) rfl (by rw [hml]; rfl) (Steps.refl _) (argsL := [.null]) (rest := []) (lenOf pd_3 rfl) rfl (by show 2 * 0 + _ ≤ _; exact Nat.le_of_eq rfl) (hb hby at_187) (fun _ _ => ⟨rfl, rfl, (by decide : 1 + 0 ≤ _), (by decide : 3 + 0 ≤ _)⟩)
      dsimp only [Pt.U, Pt.locs, Pt.cells, Pt.slots] at X23 l23 y23 z23 st23 hQ23
      subst l23 y23 z23
      obtain ⟨rfl, N23q, e23⟩ := hQ23
      have N23 := Fr.app N12 N23q
      refine Goes.via st23 ?_
      show Goes p.tables e below (T23.setTop (mkF m 190 #[.val (.int pd), .val (.int pg), .val (.int pn), .val (.int pe), .val (.int ph), .val (.int pz), .val (.int x1), .val (.int x2), .val (.int x3), .val (.int v4), .val (.int v6), .val (.int v8), .val (.int x10), .val (.ref b11), .unset, .unset] [(.int (0 : Int32))])) _
      refine Goes.by (fun _ k => XS.ifNo X23.here hx rfl (hb hby at_190) rfl ((if0 _ _).trans (teq (by decide : (0 : Int32) = (0 : Int32))).2) k) ?_
      show Goes p.tables e below (T23.setTop (mkF m 193 #[.val (.int pd), .val (.int pg), .val (.int pn), .val (.int pe), .val (.int ph), .val (.int pz), .val (.int x1), .val (.int x2), .val (.int x3), .val (.int v4), .val (.int v6), .val (.int v8), .val (.int x10), .val (.ref b11), .unset, .unset] [])) _
      refine Goes.by (fun _ k => XS.iconst X23.here hx rfl (hb hby at_193) k) ?_
      show Goes p.tables e below (T23.setTop (mkF m 194 #[.val (.int pd), .val (.int pg), .val (.int pn), .val (.int pe), .val (.int ph), .val (.int pz), .val (.int x1), .val (.int x2), .val (.int x3), .val (.int v4), .val (.int v6), .val (.int v8), .val (.int x10), .val (.ref b11), .unset, .unset] [(.int (1 : Int32))])) _
      refine Goes.by (fun _ k => XS.goto X23.here hx rfl (pc0 := 194) (pc' := 198) rfl (hb hby at_194) (by decide) (by decide) k) ?_
      show Goes p.tables e below (T23.setTop (mkF m 198 #[.val (.int pd), .val (.int pg), .val (.int pn), .val (.int pe), .val (.int ph), .val (.int pz), .val (.int x1), .val (.int x2), .val (.int x3), .val (.int v4), .val (.int v6), .val (.int v8), .val (.int x10), .val (.ref b11), .unset, .unset] [(.int (1 : Int32))])) _
      obtain ⟨fs, hr, hrun, hended, hW, hsame⟩ := X23.leave (v := some (.int (1 : Int32))) (fun h => by rw [Bd.returns] at h; cases h)
      refine ⟨_, _, retN X23 hx (t := .boolean) Bd.returns (by simp) (hb hby at_198) hr, hrun, hended, _, _, rfl, ?_, ⟨_, rfl⟩, hW, hsame.mono (by decide) (by decide)⟩
      show Q0 Z pd pg pn pe ph pz acac h0 n0 _ T23.heap _
      rw [e23]
      exact ⟨rfl, N23⟩
    · refine Goes.by (fun _ k => XS.icmpYes X12.here hx rfl (pc0 := 181) (pc' := 199) rfl (hb hby at_181) rfl (feq hc22).2 (by decide) (by decide) k) ?_
      show Goes p.tables e below (T12.setTop (mkF m 199 #[.val (.int pd), .val (.int pg), .val (.int pn), .val (.int pe), .val (.int ph), .val (.int pz), .val (.int x1), .val (.int x2), .val (.int x3), .val (.int v4), .val (.int v6), .val (.int v8), .val (.int x10), .val (.ref b11), .unset, .unset] [])) _
      refine Goes.by (fun _ k => XS.iload X12.here hx rfl (hb hby at_199) rfl k) ?_
      show Goes p.tables e below (T12.setTop (mkF m 201 #[.val (.int pd), .val (.int pg), .val (.int pn), .val (.int pe), .val (.int ph), .val (.int pz), .val (.int x1), .val (.int x2), .val (.int x3), .val (.int v4), .val (.int v6), .val (.int v8), .val (.int x10), .val (.ref b11), .unset, .unset] [(.int x10)])) _
      refine Goes.by (fun _ k => XS.iconst X12.here hx rfl (hb hby at_201) k) ?_
      show Goes p.tables e below (T12.setTop (mkF m 202 #[.val (.int pd), .val (.int pg), .val (.int pn), .val (.int pe), .val (.int ph), .val (.int pz), .val (.int x1), .val (.int x2), .val (.int x3), .val (.int v4), .val (.int v6), .val (.int v8), .val (.int x10), .val (.ref b11), .unset, .unset] [(.int (2 : Int32)), (.int x10)])) _
      by_cases hc24 : x10 = (2 : Int32)
      · refine Goes.by (fun _ k => XS.icmpNo X12.here hx rfl (hb hby at_202) rfl (teq hc24).2 k) ?_
        show Goes p.tables e below (T12.setTop (mkF m 205 #[.val (.int pd), .val (.int pg), .val (.int pn), .val (.int pe), .val (.int ph), .val (.int pz), .val (.int x1), .val (.int x2), .val (.int x3), .val (.int v4), .val (.int v6), .val (.int v8), .val (.int x10), .val (.ref b11), .unset, .unset] [])) _
        obtain ⟨T25, h25, X25, e25, E25, A25, D25, -, st25⟩ := newO X12 hx hZ hown (hw _ (List.mem_of_getElem? (i := 41) rfl)) (hw _ (List.mem_of_getElem? (i := 42) rfl)) (hw _ (List.mem_of_getElem? (i := 43) rfl)) rfl (g := (mkF m 205 #[.val (.int pd), .val (.int pg), .val (.int pn), .val (.int pe), .val (.int ph), .val (.int pz), .val (.int x1), .val (.int x2), .val (.int x3), .val (.int v4), .val (.int v6), .val (.int v8), .val (.int x10), .val (.ref b11), .unset, .unset] [])) rfl (hb hby at_205) (by decide) (by decide)
        obtain ⟨b25, g25⟩ : ∃ z, z = T12.heap.size := ⟨_, rfl⟩
        rw [← g25] at A25 D25 st25
        have g_b25 : n0 ≤ b25 := Nat.le_trans Zs12 (Nat.le_of_eq g25.symm)
        have sz_b25 : h0.size ≤ b25 := Nat.le_trans K12.1 (Nat.le_of_eq g25.symm)
        have ne_b11_b25 : b11 ≠ b25 := Nat.ne_of_lt (Nat.lt_of_lt_of_le E_b11.lt (Nat.le_of_eq g25.symm))
        have Zs25 : n0 ≤ h25.size := Nat.le_trans Zs12 E25.1
        have K25 : Keep h0 h25 [] := K12.ext E25
        refine Goes.by st25 ?_
        have O : Old Z n0 h25 := O.ext E25
        have E_b11 : Exa Z h25 b11 "castkey/card/KeyId" := E_b11.ext E25
        have F_b11_keyDomainId : Fld Z h25 b11 "castkey/card/KeyId" "keyDomainId" "I" (.int x1) := F_b11_keyDomainId.ext E25
        have F_b11_keyGroup : Fld Z h25 b11 "castkey/card/KeyId" "keyGroup" "I" (.int x2) := F_b11_keyGroup.ext E25
        have F_b11_keyNumber : Fld Z h25 b11 "castkey/card/KeyId" "keyNumber" "I" (.int x3) := F_b11_keyNumber.ext E25
        have E_b25 : Exa Z h25 b25 "castkey/card/MskId" := A25
        have F_b25_keyGroup : Fld Z h25 b25 "castkey/card/MskId" "keyGroup" "I" (.int (0 : Int32)) := D25 (Or.inr (hw _ (List.mem_of_getElem? (i := 49) rfl))) (ty := .int) (by decide)
        have F_b25_keyNumber : Fld Z h25 b25 "castkey/card/MskId" "keyNumber" "I" (.int (0 : Int32)) := D25 (Or.inr (hw _ (List.mem_of_getElem? (i := 51) rfl))) (ty := .int) (by decide)
        show Goes p.tables e below (T25.setTop (mkF m 208 #[.val (.int pd), .val (.int pg), .val (.int pn), .val (.int pe), .val (.int ph), .val (.int pz), .val (.int x1), .val (.int x2), .val (.int x3), .val (.int v4), .val (.int v6), .val (.int v8), .val (.int x10), .val (.ref b11), .unset, .unset] [(.ref b25)])) _
        refine Goes.by (fun _ k => XS.dup X25.here hx rfl (hb hby at_208) rfl rfl k) ?_
        show Goes p.tables e below (T25.setTop (mkF m 209 #[.val (.int pd), .val (.int pg), .val (.int pn), .val (.int pe), .val (.int ph), .val (.int pz), .val (.int x1), .val (.int x2), .val (.int x3), .val (.int v4), .val (.int v6), .val (.int v8), .val (.int x10), .val (.ref b11), .unset, .unset] [(.ref b25), (.ref b25)])) _
        refine Goes.by (fun _ k => XS.iload X25.here hx rfl (hb hby at_209) rfl k) ?_
        show Goes p.tables e below (T25.setTop (mkF m 211 #[.val (.int pd), .val (.int pg), .val (.int pn), .val (.int pe), .val (.int ph), .val (.int pz), .val (.int x1), .val (.int x2), .val (.int x3), .val (.int v4), .val (.int v6), .val (.int v8), .val (.int x10), .val (.ref b11), .unset, .unset] [(.int x2), (.ref b25), (.ref b25)])) _
        refine Goes.by (fun _ k => XS.iload X25.here hx rfl (hb hby at_211) rfl k) ?_
        show Goes p.tables e below (T25.setTop (mkF m 213 #[.val (.int pd), .val (.int pg), .val (.int pn), .val (.int pe), .val (.int ph), .val (.int pz), .val (.int x1), .val (.int x2), .val (.int x3), .val (.int v4), .val (.int v6), .val (.int v8), .val (.int x10), .val (.ref b11), .unset, .unset] [(.int x3), (.int x2), (.ref b25), (.ref b25)])) _
        obtain ⟨_, _, ⟨T26, L26, k26, n26⟩, -, X26, ⟨Lc26, hQ26, l26, y26, z26⟩, st26⟩ := X25.specialBack hx (y := (⟨"castkey/card/MskId", "<init>", "(II)V"⟩ : MethodName)) rfl hown (mvT hZ (hw _ (List.mem_of_getElem? (i := 44) rfl))) (mvT hZ (hw _ (List.mem_of_getElem? (i := 45) rfl))) (mvT hZ (hw _ (List.mem_of_getElem? (i := 46) rfl))) (by decide) (backOf (W := 1) (rm6 l Z a0 hw [] b25 x2 x3 h25 n0 Zs25 E_b25 F_b25_keyGroup F_b25_keyNumber g_b25) hZ (hw _ (List.mem_of_getElem? (i := 46) rfl)) (hw _ (List.mem_of_getElem? (i := 43) rfl)) (by decide) (by decide)) (g := (mkF m 213 #[.val (.int pd), .val (.int pg), .val (.int pn), .val (.int pe), .val (.int ph), .val (.int pz), .val (.int x1), .val (.int x2), .val (.int x3), .val (.int v4), .val (.int v6), .val (.int v8), .val (.int x10), .val (.ref b11), .unset, .unset] [(.int x3), (.int x2), (.ref b25), (.ref b25)])) rfl (by rw [hml]; rfl) (Steps.refl _) (a := b25) (argsL := [(.int x2), (.int x3)]) (rest := [(.ref b25)]) (lenOf pd_4 rfl) rfl (by show 2 * 0 + _ ≤ _; exact Nat.le_of_eq rfl) (hb hby at_213) (fun _ _ => ⟨rfl, e25, (by decide : 2 + 0 ≤ _), (by decide : 5 + 0 ≤ _)⟩)
        dsimp only [Pt.U, Pt.locs, Pt.cells, Pt.slots] at X26 l26 y26 z26 st26 hQ26
        subst l26 y26 z26
        obtain ⟨rfl, N26q, Kq26, po26_0, po26_1, po26_2⟩ := hQ26
        have N26 := Fr.app N12 N26q
        refine Goes.via st26 ?_
        have Zs26 : n0 ≤ T26.heap.size := Nat.le_trans Zs25 Kq26.1
        have K26 : Keep h0 T26.heap [] := K25.trans Kq26 (allS (Or.inr sz_b25) all0)
        have O : Old Z n0 T26.heap := O.keep Kq26 (allS g_b25 all0)
        have E_b11 : Exa Z T26.heap b11 "castkey/card/KeyId" := E_b11.keep Kq26
        have F_b11_keyDomainId : Fld Z T26.heap b11 "castkey/card/KeyId" "keyDomainId" "I" (.int x1) := F_b11_keyDomainId.keep Kq26 (ninS ne_b11_b25 nin0)
        have F_b11_keyGroup : Fld Z T26.heap b11 "castkey/card/KeyId" "keyGroup" "I" (.int x2) := F_b11_keyGroup.keep Kq26 (ninS ne_b11_b25 nin0)
        have F_b11_keyNumber : Fld Z T26.heap b11 "castkey/card/KeyId" "keyNumber" "I" (.int x3) := F_b11_keyNumber.keep Kq26 (ninS ne_b11_b25 nin0)
        have E_b25 : Exa Z T26.heap b25 "castkey/card/MskId" := E_b25.keep Kq26
        have E_b25 : Exa Z T26.heap b25 "castkey/card/MskId" := po26_0
        have F_b25_keyGroup : Fld Z T26.heap b25 "castkey/card/MskId" "keyGroup" "I" (.int x2) := po26_1
        have F_b25_keyNumber : Fld Z T26.heap b25 "castkey/card/MskId" "keyNumber" "I" (.int x3) := po26_2
        show Goes p.tables e below (T26.setTop (mkF m 216 #[.val (.int pd), .val (.int pg), .val (.int pn), .val (.int pe), .val (.int ph), .val (.int pz), .val (.int x1), .val (.int x2), .val (.int x3), .val (.int v4), .val (.int v6), .val (.int v8), .val (.int x10), .val (.ref b11), .unset, .unset] [(.ref b25)])) _
        refine Goes.by (fun _ k => XS.astore X26.here hx rfl (hb hby at_216) rfl rfl (l' := #[.val (.int pd), .val (.int pg), .val (.int pn), .val (.int pe), .val (.int ph), .val (.int pz), .val (.int x1), .val (.int x2), .val (.int x3), .val (.int v4), .val (.int v6), .val (.int v8), .val (.int x10), .val (.ref b11), .val (.ref b25), .unset]) rfl k) ?_
        show Goes p.tables e below (T26.setTop (mkF m 218 #[.val (.int pd), .val (.int pg), .val (.int pn), .val (.int pe), .val (.int ph), .val (.int pz), .val (.int x1), .val (.int x2), .val (.int x3), .val (.int v4), .val (.int v6), .val (.int v8), .val (.int x10), .val (.ref b11), .val (.ref b25), .unset] [])) _
        refine Goes.by (fun _ k => XS.aload X26.here hx rfl (hb hby at_218) rfl rfl k) ?_
        show Goes p.tables e below (T26.setTop (mkF m 220 #[.val (.int pd), .val (.int pg), .val (.int pn), .val (.int pe), .val (.int ph), .val (.int pz), .val (.int x1), .val (.int x2), .val (.int x3), .val (.int v4), .val (.int v6), .val (.int v8), .val (.int x10), .val (.ref b11), .val (.ref b25), .unset] [(.ref b11)])) _
        refine Goes.by (fun _ k => XS.aload X26.here hx rfl (hb hby at_220) rfl rfl k) ?_
        show Goes p.tables e below (T26.setTop (mkF m 222 #[.val (.int pd), .val (.int pg), .val (.int pn), .val (.int pe), .val (.int ph), .val (.int pz), .val (.int x1), .val (.int x2), .val (.int x3), .val (.int v4), .val (.int v6), .val (.int v8), .val (.int x10), .val (.ref b11), .val (.ref b25), .unset] [(.ref b25), (.ref b11)])) _
        obtain ⟨cq27, kq27, q27a, q27b, q27c⟩ := isOf hZ rfl E_b11
        obtain ⟨_, _, ⟨T27, L27, k27, n27⟩, -, X27, ⟨Lc27, hQ27, l27, y27, z27⟩, st27⟩ := X26.virtualBack hx (y := (⟨"castkey/card/KeyId", "equals", "(Ljava/lang/Object;)Z"⟩ : MethodName)) (z := (⟨"castkey/card/KeyId", "equals", "(Ljava/lang/Object;)Z"⟩ : MethodName)) hown (mvT hZ (hw _ (List.mem_of_getElem? (i := 24) rfl))) (mvT hZ (hw _ (List.mem_of_getElem? (i := 25) rfl))) (notFace_of_selects (args := #[]) (mvT hZ (hw _ (List.mem_of_getElem? (i := 27) rfl)))) (mvT hZ (hw _ (List.mem_of_getElem? (i := 27) rfl))) (mvT hZ (hw _ (List.mem_of_getElem? (i := 26) rfl))) (by decide) (backOf (W := 0) (rm4m l Z a0 hw [] b11 b25 T26.heap n0 Zs26 E_b25) hZ (hw _ (List.mem_of_getElem? (i := 28) rfl)) (hw _ (List.mem_of_getElem? (i := 4) rfl)) (by decide) (by decide)) q27a q27c (g := (mkF m 222 #[.val (.int pd), .val (.int pg), .val (.int pn), .val (.int pe), .val (.int ph), .val (.int pz), .val (.int x1), .val (.int x2), .val (.int x3), .val (.int v4), .val (.int v6), .val (.int v8), .val (.int x10), .val (.ref b11), .val (.ref b25), .unset] [(.ref b25), (.ref b11)])) rfl (by rw [hml]; rfl) (Steps.refl _) (argsL := [(.ref b25)]) (rest := []) (lenOf pd_3 rfl) rfl (by show 2 * 0 + _ ≤ _; exact Nat.le_of_eq rfl) (hb hby at_222) (fun _ _ => ⟨rfl, rfl, (by decide : 2 + 0 ≤ _), (by decide : 5 + 0 ≤ _)⟩)
        dsimp only [Pt.U, Pt.locs, Pt.cells, Pt.slots] at X27 l27 y27 z27 st27 hQ27
        subst l27 y27 z27
        obtain ⟨rfl, N27q, e27⟩ := hQ27
        have N27 := Fr.app N26 N27q
        refine Goes.via st27 ?_
        show Goes p.tables e below (T27.setTop (mkF m 225 #[.val (.int pd), .val (.int pg), .val (.int pn), .val (.int pe), .val (.int ph), .val (.int pz), .val (.int x1), .val (.int x2), .val (.int x3), .val (.int v4), .val (.int v6), .val (.int v8), .val (.int x10), .val (.ref b11), .val (.ref b25), .unset] [(.int (0 : Int32))])) _
        refine Goes.by (fun _ k => XS.ifNo X27.here hx rfl (hb hby at_225) rfl ((if0 _ _).trans (teq (by decide : (0 : Int32) = (0 : Int32))).2) k) ?_
        show Goes p.tables e below (T27.setTop (mkF m 228 #[.val (.int pd), .val (.int pg), .val (.int pn), .val (.int pe), .val (.int ph), .val (.int pz), .val (.int x1), .val (.int x2), .val (.int x3), .val (.int v4), .val (.int v6), .val (.int v8), .val (.int x10), .val (.ref b11), .val (.ref b25), .unset] [])) _
        refine Goes.by (fun _ k => XS.iconst X27.here hx rfl (hb hby at_228) k) ?_
        show Goes p.tables e below (T27.setTop (mkF m 229 #[.val (.int pd), .val (.int pg), .val (.int pn), .val (.int pe), .val (.int ph), .val (.int pz), .val (.int x1), .val (.int x2), .val (.int x3), .val (.int v4), .val (.int v6), .val (.int v8), .val (.int x10), .val (.ref b11), .val (.ref b25), .unset] [(.int (1 : Int32))])) _
        refine Goes.by (fun _ k => XS.goto X27.here hx rfl (pc0 := 229) (pc' := 233) rfl (hb hby at_229) (by decide) (by decide) k) ?_
        show Goes p.tables e below (T27.setTop (mkF m 233 #[.val (.int pd), .val (.int pg), .val (.int pn), .val (.int pe), .val (.int ph), .val (.int pz), .val (.int x1), .val (.int x2), .val (.int x3), .val (.int v4), .val (.int v6), .val (.int v8), .val (.int x10), .val (.ref b11), .val (.ref b25), .unset] [(.int (1 : Int32))])) _
        obtain ⟨fs, hr, hrun, hended, hW, hsame⟩ := X27.leave (v := some (.int (1 : Int32))) (fun h => by rw [Bd.returns] at h; cases h)
        refine ⟨_, _, retN X27 hx (t := .boolean) Bd.returns (by simp) (hb hby at_233) hr, hrun, hended, _, _, rfl, ?_, ⟨_, rfl⟩, hW, hsame.mono (by decide) (by decide)⟩
        show Q0 Z pd pg pn pe ph pz acac h0 n0 _ T27.heap _
        rw [e27]
        exact ⟨rfl, N27⟩
      · refine Goes.by (fun _ k => XS.icmpYes X12.here hx rfl (pc0 := 202) (pc' := 234) rfl (hb hby at_202) rfl (feq hc24).2 (by decide) (by decide) k) ?_
        show Goes p.tables e below (T12.setTop (mkF m 234 #[.val (.int pd), .val (.int pg), .val (.int pn), .val (.int pe), .val (.int ph), .val (.int pz), .val (.int x1), .val (.int x2), .val (.int x3), .val (.int v4), .val (.int v6), .val (.int v8), .val (.int x10), .val (.ref b11), .unset, .unset] [])) _
        refine Goes.by (fun _ k => XS.iload X12.here hx rfl (hb hby at_234) rfl k) ?_
        show Goes p.tables e below (T12.setTop (mkF m 236 #[.val (.int pd), .val (.int pg), .val (.int pn), .val (.int pe), .val (.int ph), .val (.int pz), .val (.int x1), .val (.int x2), .val (.int x3), .val (.int v4), .val (.int v6), .val (.int v8), .val (.int x10), .val (.ref b11), .unset, .unset] [(.int x1)])) _
        obtain ⟨_, _, ⟨T28, L28, k28, n28⟩, -, X28, ⟨Lc28, hQ28, l28, y28, z28⟩, st28⟩ := Jvm.LawKit.callS X12 hx (y := (⟨"java/lang/Integer", "valueOf", "(I)Ljava/lang/Integer;"⟩ : MethodName)) hown (mvT hZ (hw _ (List.mem_of_getElem? (i := 31) rfl))) (mvT hZ (hw _ (List.mem_of_getElem? (i := 32) rfl))) (mvT hZ (hw _ (List.mem_of_getElem? (i := 33) rfl))) (mvT hZ (hw _ (List.mem_of_getElem? (i := 34) rfl))) (by decide) (backOf (W := 0) (rm5 l Z a0 hw [] x1 acac T12.heap n0 Zs12 O S_high S_cache hcac) hZ (hw _ (List.mem_of_getElem? (i := 34) rfl)) (hw _ (List.mem_of_getElem? (i := 33) rfl)) (by decide) (by decide)) (g := (mkF m 236 #[.val (.int pd), .val (.int pg), .val (.int pn), .val (.int pe), .val (.int ph), .val (.int pz), .val (.int x1), .val (.int x2), .val (.int x3), .val (.int v4), .val (.int v6), .val (.int v8), .val (.int x10), .val (.ref b11), .unset, .unset] [(.int x1)])) rfl (by rw [hml]; rfl) (argsL := [(.int x1)]) (rest := []) (lenOf pd_5 rfl) rfl (by show 2 * 0 + _ ≤ _; exact Nat.le_of_eq rfl) (hb hby at_236) (fun _ _ => ⟨rfl, rfl, (by decide : 1 + 1 ≤ _), (by decide : 3 + 1 ≤ _)⟩)
        dsimp only [Pt.U, Pt.locs, Pt.cells, Pt.slots] at X28 l28 y28 z28 st28 hQ28
        subst l28 y28 z28
        obtain ⟨ob_28, rfl, N28q, Kq28, po28_0⟩ := hQ28
        have N28 := Fr.app N12 N28q
        refine Goes.by st28 ?_
        have Zs28 : n0 ≤ T28.heap.size := Nat.le_trans Zs12 Kq28.1
        have K28 : Keep h0 T28.heap [] := K12.trans Kq28 all0
        have O : Old Z n0 T28.heap := O.keep Kq28 all0
        have E_b11 : Exa Z T28.heap b11 "castkey/card/KeyId" := E_b11.keep Kq28
        have F_b11_keyDomainId : Fld Z T28.heap b11 "castkey/card/KeyId" "keyDomainId" "I" (.int x1) := F_b11_keyDomainId.keep Kq28 nin0
        have F_b11_keyGroup : Fld Z T28.heap b11 "castkey/card/KeyId" "keyGroup" "I" (.int x2) := F_b11_keyGroup.keep Kq28 nin0
        have F_b11_keyNumber : Fld Z T28.heap b11 "castkey/card/KeyId" "keyNumber" "I" (.int x3) := F_b11_keyNumber.keep Kq28 nin0
        have E_ob_28 : Exa Z T28.heap ob_28 "java/lang/Integer" := po28_0
        show Goes p.tables e below (T28.setTop (mkF m 239 #[.val (.int pd), .val (.int pg), .val (.int pn), .val (.int pe), .val (.int ph), .val (.int pz), .val (.int x1), .val (.int x2), .val (.int x3), .val (.int v4), .val (.int v6), .val (.int v8), .val (.int x10), .val (.ref b11), .unset, .unset] [(.ref ob_28)])) _
        refine Goes.by (fun _ k => XS.astore X28.here hx rfl (hb hby at_239) rfl rfl (l' := #[.val (.int pd), .val (.int pg), .val (.int pn), .val (.int pe), .val (.int ph), .val (.int pz), .val (.int x1), .val (.int x2), .val (.int x3), .val (.int v4), .val (.int v6), .val (.int v8), .val (.int x10), .val (.ref b11), .val (.ref ob_28), .unset]) rfl k) ?_
        show Goes p.tables e below (T28.setTop (mkF m 241 #[.val (.int pd), .val (.int pg), .val (.int pn), .val (.int pe), .val (.int ph), .val (.int pz), .val (.int x1), .val (.int x2), .val (.int x3), .val (.int v4), .val (.int v6), .val (.int v8), .val (.int x10), .val (.ref b11), .val (.ref ob_28), .unset] [])) _
        refine Goes.by (fun _ k => XS.aload X28.here hx rfl (hb hby at_241) rfl rfl k) ?_
        show Goes p.tables e below (T28.setTop (mkF m 243 #[.val (.int pd), .val (.int pg), .val (.int pn), .val (.int pe), .val (.int ph), .val (.int pz), .val (.int x1), .val (.int x2), .val (.int x3), .val (.int v4), .val (.int v6), .val (.int v8), .val (.int x10), .val (.ref b11), .val (.ref ob_28), .unset] [(.ref b11)])) _
        refine Goes.by (fun _ k => XS.aload X28.here hx rfl (hb hby at_243) rfl rfl k) ?_
        show Goes p.tables e below (T28.setTop (mkF m 245 #[.val (.int pd), .val (.int pg), .val (.int pn), .val (.int pe), .val (.int ph), .val (.int pz), .val (.int x1), .val (.int x2), .val (.int x3), .val (.int v4), .val (.int v6), .val (.int v8), .val (.int x10), .val (.ref b11), .val (.ref ob_28), .unset] [(.ref ob_28), (.ref b11)])) _
        obtain ⟨cq29, kq29, q29a, q29b, q29c⟩ := isOf hZ rfl E_b11
        obtain ⟨_, _, ⟨T29, L29, k29, n29⟩, -, X29, ⟨Lc29, hQ29, l29, y29, z29⟩, st29⟩ := X28.virtualBack hx (y := (⟨"castkey/card/KeyId", "equals", "(Ljava/lang/Object;)Z"⟩ : MethodName)) (z := (⟨"castkey/card/KeyId", "equals", "(Ljava/lang/Object;)Z"⟩ : MethodName)) hown (mvT hZ (hw _ (List.mem_of_getElem? (i := 24) rfl))) (mvT hZ (hw _ (List.mem_of_getElem? (i := 25) rfl))) (notFace_of_selects (args := #[]) (mvT hZ (hw _ (List.mem_of_getElem? (i := 27) rfl)))) (mvT hZ (hw _ (List.mem_of_getElem? (i := 27) rfl))) (mvT hZ (hw _ (List.mem_of_getElem? (i := 26) rfl))) (by decide) (backOf (W := 0) (rm4i l Z a0 hw [] b11 ob_28 T28.heap n0 Zs28 E_ob_28) hZ (hw _ (List.mem_of_getElem? (i := 28) rfl)) (hw _ (List.mem_of_getElem? (i := 4) rfl)) (by decide) (by decide)) q29a q29c (g := (mkF m 245 #[.val (.int pd), .val (.int pg), .val (.int pn), .val (.int pe), .val (.int ph), .val (.int pz), .val (.int x1), .val (.int x2), .val (.int x3), .val (.int v4), .val (.int v6), .val (.int v8), .val (.int x10), .val (.ref b11), .val (.ref ob_28), .unset] [(.ref ob_28), (.ref b11)])) rfl (by rw [hml]; rfl) (Steps.refl _) (argsL := [(.ref ob_28)]) (rest := []) (lenOf pd_3 rfl) rfl (by show 2 * 0 + _ ≤ _; exact Nat.le_of_eq rfl) (hb hby at_245) (fun _ _ => ⟨rfl, rfl, (by decide : 2 + 0 ≤ _), (by decide : 4 + 0 ≤ _)⟩)
        dsimp only [Pt.U, Pt.locs, Pt.cells, Pt.slots] at X29 l29 y29 z29 st29 hQ29
        subst l29 y29 z29
        obtain ⟨rfl, N29q, e29⟩ := hQ29
        have N29 := Fr.app N28 N29q
        refine Goes.via st29 ?_
        show Goes p.tables e below (T29.setTop (mkF m 248 #[.val (.int pd), .val (.int pg), .val (.int pn), .val (.int pe), .val (.int ph), .val (.int pz), .val (.int x1), .val (.int x2), .val (.int x3), .val (.int v4), .val (.int v6), .val (.int v8), .val (.int x10), .val (.ref b11), .val (.ref ob_28), .unset] [(.int (0 : Int32))])) _
        refine Goes.by (fun _ k => XS.ifNo X29.here hx rfl (hb hby at_248) rfl ((if0 _ _).trans (teq (by decide : (0 : Int32) = (0 : Int32))).2) k) ?_
        show Goes p.tables e below (T29.setTop (mkF m 251 #[.val (.int pd), .val (.int pg), .val (.int pn), .val (.int pe), .val (.int ph), .val (.int pz), .val (.int x1), .val (.int x2), .val (.int x3), .val (.int v4), .val (.int v6), .val (.int v8), .val (.int x10), .val (.ref b11), .val (.ref ob_28), .unset] [])) _
        refine Goes.by (fun _ k => XS.iconst X29.here hx rfl (hb hby at_251) k) ?_
        show Goes p.tables e below (T29.setTop (mkF m 252 #[.val (.int pd), .val (.int pg), .val (.int pn), .val (.int pe), .val (.int ph), .val (.int pz), .val (.int x1), .val (.int x2), .val (.int x3), .val (.int v4), .val (.int v6), .val (.int v8), .val (.int x10), .val (.ref b11), .val (.ref ob_28), .unset] [(.int (1 : Int32))])) _
        refine Goes.by (fun _ k => XS.goto X29.here hx rfl (pc0 := 252) (pc' := 256) rfl (hb hby at_252) (by decide) (by decide) k) ?_
        show Goes p.tables e below (T29.setTop (mkF m 256 #[.val (.int pd), .val (.int pg), .val (.int pn), .val (.int pe), .val (.int ph), .val (.int pz), .val (.int x1), .val (.int x2), .val (.int x3), .val (.int v4), .val (.int v6), .val (.int v8), .val (.int x10), .val (.ref b11), .val (.ref ob_28), .unset] [(.int (1 : Int32))])) _
        obtain ⟨fs, hr, hrun, hended, hW, hsame⟩ := X29.leave (v := some (.int (1 : Int32))) (fun h => by rw [Bd.returns] at h; cases h)
        refine ⟨_, _, retN X29 hx (t := .boolean) Bd.returns (by simp) (hb hby at_256) hr, hrun, hended, _, _, rfl, ?_, ⟨_, rfl⟩, hW, hsame.mono (by decide) (by decide)⟩
        show Q0 Z pd pg pn pe ph pz acac h0 n0 _ T29.heap _
        rw [e29]
        exact ⟨rfl, N29⟩
set_option maxRecDepth 65536 in
set_option maxHeartbeats 40000000 in
theorem comes_1 {Post : Tables → Env → Array Value → State → Outcome → State → Prop} (hpost : ∀ tb e args s v u, (limb_1_1.after args s (.returned v) u = true ∧ limb_1_2.after args s (.returned v) u = true ∧ True) → FrameEnd s (.returned v) u (Jvm.fieldLocs frame_1_writes args s ++ Jvm.arrayLocs frame_1_arrays args s ++ Jvm.staticLocs frame_1_statics s) 16 128 → Post tb e args s (.returned v) u) :
    ArmFor flags0 classFile x code maxLocals ret World_1 tables_1 room_1 Calls_1 rest_1 Pre_1 Post := by
  intro l hfl _ _ p e ha hc hk s m args below hf hA hF happ hP
  obtain ⟨hcalls, hrest, hpre⟩ := hP
  obtain ⟨-, -, -, hnamed, -, -, -, hat⟩ := (Spec.applies_iff hf).mp happ
  obtain ⟨hg, hn⟩ := and_e (Cond.before_iff.mp (show (Jvm.Cond.and given_1 narrow_1).before args s = true from hpre))
  obtain ⟨g1, g2⟩ := and_e hg
  obtain ⟨g3, g4⟩ := and_e g2
  obtain ⟨g5, g6⟩ := and_e g4
  obtain ⟨g7, g8⟩ := and_e g6
  obtain ⟨g9, g10⟩ := and_e g8
  obtain ⟨g11, g12⟩ := and_e g10
  obtain ⟨w0, w1, w2, w3, w4, w5, rfl⟩ : ∃ w0 w1 w2 w3 w4 w5 : Value, args = #[w0, w1, w2, w3, w4, w5] := by
    have hs : args.size = 6 := by simpa [Cond.value, given_1] using g1
    obtain ⟨L⟩ := args
    match L, hs with
    | [w0, w1, w2, w3, w4, w5], _ => exact ⟨w0, w1, w2, w3, w4, w5, rfl⟩
  have hw := fun d (hd : d ∈ tables_1) => atoms_spec (ws := Jvm.Cond.code x code maxLocals ret :: tables_1) hat d (List.mem_cons_of_mem _ hd)
  have hfit : Fit s := fun {y c} hc i hi => by
    obtain ⟨ha, rfl⟩ := Array.getElem?_eq_some_iff.mp hc
    have q := List.all_eq_true.mp ((Array.all_eq_true_iff_forall_mem.mp hF) _ (Array.getElem_mem ha)) i (List.mem_range.mpr hi)
    simpa [Array.getElem?_eq_getElem hi] using q
  obtain ⟨hsets, hown0⟩ := atoms_of _ (rest_1_c_eq ▸ (show rest_1_c.before _ s = true from hrest))
  have hr0 := Cond.before_iff.mp hown0
  obtain ⟨i0, ei0⟩ := is_v g3
  obtain rfl : w0 = (.int i0) := Option.some.inj ei0
  obtain ⟨i1, ei1⟩ := is_v g5
  obtain rfl : w1 = (.int i1) := Option.some.inj ei1
  obtain ⟨i2, ei2⟩ := is_v g7
  obtain rfl : w2 = (.int i2) := Option.some.inj ei2
  obtain ⟨i3, ei3⟩ := is_v g9
  obtain rfl : w3 = (.int i3) := Option.some.inj ei3
  obtain ⟨i4, ei4⟩ := is_v g11
  obtain rfl : w4 = (.int i4) := Option.some.inj ei4
  obtain ⟨i5, ei5⟩ := is_v g12
  obtain rfl : w5 = (.int i5) := Option.some.inj ei5
  have ehigh := eqv_i (Term.int_eval (127)) (Cond.before_iff.mp (hsets _ (List.mem_of_getElem? (i := 3) rfl)))
  have S_high : Sta s s.heap "java/lang/Integer$IntegerCache" "high" "I" (.int (127 : Int32)) := Sta.start ehigh (Or.inl (hsets _ (List.mem_of_getElem? (i := 1) rfl)))
  obtain ⟨acac, ecac⟩ := arr_v (Cond.before_iff.mp (hsets _ (List.mem_of_getElem? (i := 4) rfl)))
  have S_cache : Sta s s.heap "java/lang/Integer$IntegerCache" "cache" "[Ljava/lang/Integer;" (.ref acac) := Sta.start ecac (Or.inr ⟨hw _ (List.mem_of_getElem? (i := 36) rfl), hsets _ (List.mem_of_getElem? (i := 2) rfl)⟩)
  obtain ⟨ccac, Acac⟩ := Arr.start ecac (Cond.before_iff.mp (hsets _ (List.mem_of_getElem? (i := 4) rfl)))
  have hcac : Cac s acac := own_cac ecac Acac (Cond.before_iff.mp (hsets _ (List.mem_of_getElem? (i := 6) rfl))) (Cond.before_iff.mp (hsets _ (List.mem_of_getElem? (i := 7) rfl)))
  obtain ⟨n, o, h1, h2, h3, _, L, rfl, ⟨hv0, N⟩, hq⟩ := rm0 l s _ hw tables_1 i0 i1 i2 i3 i4 i5 acac s.heap s.heap.size (Nat.le_refl _) (Old.start s) S_high S_cache hcac p e ha hc hk s m _ below hf ((Spec.applies_iff_loose hf).mp happ).1 ⟨rfl, State.Warmed39.refl s, rfl⟩ trivial
  subst hv0
  refine ⟨n, _, h1, h2, h3, hpost _ _ _ _ _ _ ⟨Cond.after_iff.mpr rfl, Cond.after_iff.mpr (eq_i res_at (Term.int_eval (1)) rfl), trivial⟩ ⟨hq.1, hq.2.1, (hq.2.2.sift fun y hy => Or.inr (N y hy)).mono (by decide) (by decide)⟩⟩
theorem main_1_1 : Claimed_1_1 := comes_1 fun _ _ _ _ _ _ h hF => ⟨h.1, hF⟩
theorem main_1_2 : Claimed_1_2 := comes_1 fun _ _ _ _ _ _ h hF => ⟨h.2.1, hF⟩
end Jvm.Pilot.@@N@@
namespace Jvm.Pilot.@@N@@
open Jvm Jvm.ClassFile Sem Op Lib Jvm.Free Jvm.Stand Jvm.Pilot.@@N@@.Jvm.D
/-! MADE BY PROGRAM (witnessworld.py) out of the Statement's table words and the real class files: 18 classes; the members and pool entries that the words name. The judged class is class 1, her method 1. -/
namespace start1
open Jvm.ClassFile
def u (s : String) : CpInfo := .utf8 (stringToUtf16 s)
/-- a pool by its gaps: so many unusable entries, then the entry; so many at the end -/
def gap : Nat → List CpInfo → List CpInfo
  | 0, r => r
  | n + 1, r => .unusable :: gap n r
def poolList (es : List (Nat × CpInfo)) (last : Nat) : List CpInfo := es.foldr (fun e r => gap e.1 (e.2 :: r)) (gap last [])
def pool (es : List (Nat × CpInfo)) (last : Nat) : Array CpInfo := ⟨poolList es last⟩
def fileOf (pool : Array CpInfo) (this : Nat) (attrs : Array Attribute := #[]) (ms : Array MethodInfo := #[]) (fl : Nat := 33) (sup : Nat := 0) (ifs : Array Nat := #[]) (fds : Array FieldInfo := #[]) : ClassFile where
  minorVersion := 0
  majorVersion := 65
  constantPool := pool
  accessFlags := fl
  thisClass := this
  superClass := sup
  interfaces := ifs
  fields := fds
  methods := ms
  attributes := attrs
def plain (name : String) (sup : Option ClassId) : Class where
  name := name
  kind := .ordinary
  loader := none
  accessFlags := 33
  super := sup
  interfaces := #[]
  cf := none
  fields := #[]
  methods := #[]
  instanceTypes := #[]
  staticTypes := #[]
  resolved := #[]
  callSites := []
  init := .initialized
  statics := none
  mirror := none

def pool0 : Array CpInfo := pool [(5, u "<init>"), (0, u "()V"), (1, .class_ 10), (1, u "java/lang/Object")] 113

def k0c0 : Code := { maxStack := 0, maxLocals := 1, code := object_method_1_code, exceptionTable := #[], attributes := #[] }
def k0m0 : Method := { name := "<init>", desc := "()V", sig := { parameters := [], returnType := none }, accessFlags := 1, code := some k0c0 }
/-- java/lang/Object -/
def k0 : Class := { plain "java/lang/Object" none with
  accessFlags := 33
  interfaces := #[]
  cf := some (fileOf pool0 8 #[] #[{ accessFlags := 1, nameIndex := 5, descriptorIndex := 6, attributes := #[] }] 33 0 #[] #[])
  fields := #[]
  methods := #[k0m0]
  instanceTypes := #[]
  staticTypes := #[]
  resolved := Array.replicate 124 none
  statics := none }

def pool1 : Array CpInfo := pool [(2, .class_ 4), (1, u "java/lang/Object"), (0, u "<init>"), (0, u "()V"), (0, .integer 16777215), (0, .integer 65535), (0, .class_ 10), (0, u "castkey/card/KeyId"), (0, .methodref 9 12), (0, .nameAndType 5 13), (0, u "(III)V"), (0, .methodref 9 15), (0, .nameAndType 16 17), (0, u "equals"), (0, u "(Ljava/lang/Object;)Z"), (0, .class_ 19), (0, u "castkey/card/MskId"), (0, .methodref 18 21), (0, .nameAndType 5 22), (0, u "(II)V"), (0, .methodref 24 25), (0, .class_ 26), (0, .nameAndType 27 28), (0, u "java/lang/Integer"), (0, u "valueOf"), (0, u "(I)Ljava/lang/Integer;"), (0, .class_ 30), (0, u "castkey/card/KeyIdEqualsPinLaw"), (2, u "law"), (0, u "(IIIIII)Z")] 3

def k1m0 : Method := { name := "<init>", desc := "()V", sig := { parameters := [], returnType := none }, accessFlags := 1, code := none }
def k1c1 : Code := { maxStack := 5, maxLocals := 16, code := code, exceptionTable := #[], attributes := #[] }
def k1m1 : Method := { name := "law", desc := "(IIIIII)Z", sig := { parameters := [.int, .int, .int, .int, .int, .int], returnType := some .boolean }, accessFlags := 9, code := some k1c1 }
/-- castkey/card/KeyIdEqualsPinLaw -/
def k1 : Class := { plain "castkey/card/KeyIdEqualsPinLaw" (some 0) with
  accessFlags := 49
  interfaces := #[]
  cf := some (fileOf pool1 29 #[] #[{ accessFlags := 1, nameIndex := 5, descriptorIndex := 6, attributes := #[] }, { accessFlags := 9, nameIndex := 33, descriptorIndex := 34, attributes := #[] }] 49 2 #[] #[])
  fields := #[]
  methods := #[k1m0, k1m1]
  instanceTypes := #[]
  staticTypes := #[]
  resolved := Array.replicate 38 none
  statics := none }

def pool2 : Array CpInfo := pool [(1, .methodref 2 3), (0, .class_ 4), (0, .nameAndType 5 6), (0, u "java/lang/Object"), (0, u "<init>"), (0, u "()V"), (0, .class_ 8), (0, u "java/lang/Record")] 13

def k2c0 : Code := { maxStack := 1, maxLocals := 1, code := jdk_30_method_1_code, exceptionTable := #[], attributes := #[] }
def k2m0 : Method := { name := "<init>", desc := "()V", sig := { parameters := [], returnType := none }, accessFlags := 4, code := some k2c0 }
/-- java/lang/Record -/
def k2 : Class := { plain "java/lang/Record" (some 0) with
  accessFlags := 1057
  interfaces := #[]
  cf := some (fileOf pool2 7 #[] #[{ accessFlags := 4, nameIndex := 5, descriptorIndex := 6, attributes := #[] }] 1057 2 #[] #[])
  fields := #[]
  methods := #[k2m0]
  instanceTypes := #[]
  staticTypes := #[]
  resolved := Array.replicate 22 none
  statics := none }

def pool3 : Array CpInfo := pool [(1, .class_ 2), (0, u "java/lang/Comparable"), (0, .class_ 4), (0, u "java/lang/Object")] 7

/-- java/lang/Comparable -/
def k3 : Class := { plain "java/lang/Comparable" (some 0) with
  accessFlags := 1537
  interfaces := #[]
  cf := some (fileOf pool3 1 #[] #[] 1537 3 #[] #[])
  fields := #[]
  methods := #[]
  instanceTypes := #[]
  staticTypes := #[]
  resolved := Array.replicate 12 none
  statics := none }

def pool4 : Array CpInfo := pool [(1, .methodref 2 3), (0, .class_ 4), (0, .nameAndType 5 6), (0, u "java/lang/Record"), (0, u "<init>"), (0, u "()V"), (0, .integer 16777215), (0, .integer 65535), (7, .fieldref 17 18), (0, .class_ 19), (0, .nameAndType 20 21), (0, u "castkey/card/KeyId"), (0, u "keyDomainId"), (0, u "I"), (0, .fieldref 17 23), (0, .nameAndType 24 21), (0, u "keyGroup"), (0, .fieldref 17 26), (0, .nameAndType 27 21), (0, u "keyNumber"), (18, u "HEX"), (0, u "Ljava/util/HexFormat;"), (20, u "TEXT"), (0, u "Ljava/util/regex/Pattern;"), (23, u "(III)V"), (17, .class_ 112), (0, u "java/lang/Comparable"), (0, u "DOMAIN_MASK_FACTOR"), (1, u "TEXT_RULE"), (0, u "Ljava/lang/String;"), (6, u "equals"), (0, u "(Ljava/lang/Object;)Z")] 28

def k4c0 : Code := { maxStack := 3, maxLocals := 4, code := prog_9_method_1_code, exceptionTable := #[], attributes := #[] }
def k4m0 : Method := { name := "<init>", desc := "(III)V", sig := { parameters := [.int, .int, .int], returnType := none }, accessFlags := 1, code := some k4c0 }
def k4c1 : Code := { maxStack := 2, maxLocals := 3, code := prog_9_method_3_code, exceptionTable := #[], attributes := #[] }
def k4m1 : Method := { name := "equals", desc := "(Ljava/lang/Object;)Z", sig := { parameters := [(.object "java/lang/Object")], returnType := some .boolean }, accessFlags := 1, code := some k4c1 }
/-- castkey/card/KeyId -/
def k4 : Class := { plain "castkey/card/KeyId" (some 2) with
  accessFlags := 49
  interfaces := #[3]
  cf := some (fileOf pool4 17 #[] #[{ accessFlags := 1, nameIndex := 5, descriptorIndex := 93, attributes := #[] }, { accessFlags := 1, nameIndex := 123, descriptorIndex := 124, attributes := #[] }] 49 2 #[111] #[{ accessFlags := 18, nameIndex := 20, descriptorIndex := 21, attributes := #[] }, { accessFlags := 18, nameIndex := 24, descriptorIndex := 21, attributes := #[] }, { accessFlags := 18, nameIndex := 27, descriptorIndex := 21, attributes := #[] }, { accessFlags := 26, nameIndex := 68, descriptorIndex := 69, attributes := #[] }, { accessFlags := 26, nameIndex := 113, descriptorIndex := 21, attributes := #[] }, { accessFlags := 26, nameIndex := 46, descriptorIndex := 47, attributes := #[] }, { accessFlags := 26, nameIndex := 115, descriptorIndex := 116, attributes := #[] }])
  fields := #[{ name := "keyDomainId", type := .int, accessFlags := 18, slot := 0, constantValue := 0 }, { name := "keyGroup", type := .int, accessFlags := 18, slot := 1, constantValue := 0 }, { name := "keyNumber", type := .int, accessFlags := 18, slot := 2, constantValue := 0 }, { name := "TEXT", type := (.object "java/util/regex/Pattern"), accessFlags := 26, slot := 0, constantValue := 0 }, { name := "DOMAIN_MASK_FACTOR", type := .int, accessFlags := 26, slot := 1, constantValue := 0 }, { name := "HEX", type := (.object "java/util/HexFormat"), accessFlags := 26, slot := 2, constantValue := 0 }, { name := "TEXT_RULE", type := (.object "java/lang/String"), accessFlags := 26, slot := 3, constantValue := 0 }]
  methods := #[k4m0, k4m1]
  instanceTypes := #[.int, .int, .int]
  staticTypes := #[(.object "java/util/regex/Pattern"), .int, (.object "java/util/HexFormat"), (.object "java/lang/String")]
  resolved := Array.replicate 153 none
  statics := none }

def pool5 : Array CpInfo := pool [(1, .class_ 2), (0, u "java/io/Serializable"), (0, .class_ 4), (0, u "java/lang/Object")] 2

/-- java/io/Serializable -/
def k5 : Class := { plain "java/io/Serializable" (some 0) with
  accessFlags := 1537
  interfaces := #[]
  cf := some (fileOf pool5 1 #[] #[] 1537 3 #[] #[])
  fields := #[]
  methods := #[]
  instanceTypes := #[]
  staticTypes := #[]
  resolved := Array.replicate 7 none
  statics := none }

def pool6 : Array CpInfo := pool [(1, .methodref 2 3), (0, .class_ 4), (0, .nameAndType 5 6), (0, u "java/lang/Object"), (0, u "<init>"), (0, u "()V"), (1, .class_ 10), (1, u "java/lang/Number"), (2, .class_ 14), (0, u "java/io/Serializable"), (0, u "serialVersionUID"), (0, u "J")] 20

def k6c0 : Code := { maxStack := 1, maxLocals := 1, code := jdk_18_method_1_code, exceptionTable := #[], attributes := #[] }
def k6m0 : Method := { name := "<init>", desc := "()V", sig := { parameters := [], returnType := none }, accessFlags := 1, code := some k6c0 }
/-- java/lang/Number -/
def k6 : Class := { plain "java/lang/Number" (some 0) with
  accessFlags := 1057
  interfaces := #[5]
  cf := some (fileOf pool6 8 #[] #[{ accessFlags := 1, nameIndex := 5, descriptorIndex := 6, attributes := #[] }] 1057 2 #[13] #[{ accessFlags := 26, nameIndex := 15, descriptorIndex := 16, attributes := #[] }])
  fields := #[{ name := "serialVersionUID", type := .long, accessFlags := 26, slot := 0, constantValue := 0 }]
  methods := #[k6m0]
  instanceTypes := #[]
  staticTypes := #[.long]
  resolved := Array.replicate 37 none
  statics := none }

def pool7 : Array CpInfo := pool [(1, .class_ 2), (0, u "java/lang/constant/Constable"), (0, .class_ 4), (0, u "java/lang/Object")] 6

/-- java/lang/constant/Constable -/
def k7 : Class := { plain "java/lang/constant/Constable" (some 0) with
  accessFlags := 1537
  interfaces := #[]
  cf := some (fileOf pool7 1 #[] #[] 1537 3 #[] #[])
  fields := #[]
  methods := #[]
  instanceTypes := #[]
  staticTypes := #[]
  resolved := Array.replicate 11 none
  statics := none }

def pool8 : Array CpInfo := pool [(1, .class_ 2), (0, u "java/lang/constant/ConstantDesc"), (0, .class_ 4), (0, u "java/lang/Object")] 32

/-- java/lang/constant/ConstantDesc -/
def k8 : Class := { plain "java/lang/constant/ConstantDesc" (some 0) with
  accessFlags := 1537
  interfaces := #[]
  cf := some (fileOf pool8 1 #[] #[] 1537 3 #[] #[])
  fields := #[]
  methods := #[]
  instanceTypes := #[]
  staticTypes := #[]
  resolved := Array.replicate 37 none
  statics := none }

def pool9 : Array CpInfo := pool [(1, .class_ 2), (0, u "java/lang/Integer"), (16, u "digits"), (0, u "[C"), (46, u "<init>"), (17, u "DigitOnes"), (0, u "[B"), (2, u "DigitTens"), (10, .nameAndType 67 101), (0, u "()V"), (85, u "valueOf"), (0, u "(I)Ljava/lang/Integer;"), (0, .class_ 190), (0, u "java/lang/Integer$IntegerCache"), (0, .fieldref 189 192), (0, .nameAndType 193 194), (0, u "high"), (0, u "I"), (0, .fieldref 189 196), (0, .nameAndType 197 198), (0, u "cache"), (0, u "[Ljava/lang/Integer;"), (0, .methodref 1 200), (0, .nameAndType 67 201), (0, u "(I)V"), (0, .methodref 203 100), (0, .class_ 204), (0, u "java/lang/Number"), (0, .fieldref 1 206), (0, .nameAndType 207 194), (0, u "value"), (94, u "TYPE"), (0, u "Ljava/lang/Class;"), (0, .class_ 305), (0, u "java/lang/Comparable"), (0, .class_ 307), (0, u "java/lang/constant/Constable"), (0, .class_ 309), (0, u "java/lang/constant/ConstantDesc"), (0, u "MIN_VALUE"), (1, u "MAX_VALUE"), (3, u "SIZE"), (1, u "BYTES"), (1, u "serialVersionUID"), (0, u "J")] 131

def k9c0 : Code := { maxStack := 3, maxLocals := 1, code := jdk_33_method_22_code, exceptionTable := #[], attributes := #[] }
def k9m0 : Method := { name := "valueOf", desc := "(I)Ljava/lang/Integer;", sig := { parameters := [.int], returnType := some (.object "java/lang/Integer") }, accessFlags := 9, code := some k9c0 }
def k9c1 : Code := { maxStack := 2, maxLocals := 2, code := jdk_33_method_23_code, exceptionTable := #[], attributes := #[] }
def k9m1 : Method := { name := "<init>", desc := "(I)V", sig := { parameters := [.int], returnType := none }, accessFlags := 1, code := some k9c1 }
/-- java/lang/Integer -/
def k9 : Class := { plain "java/lang/Integer" (some 6) with
  accessFlags := 49
  interfaces := #[3, 7, 8]
  cf := some (fileOf pool9 1 #[.nestMembers #[189]] #[{ accessFlags := 9, nameIndex := 187, descriptorIndex := 188, attributes := #[] }, { accessFlags := 1, nameIndex := 67, descriptorIndex := 201, attributes := #[] }] 49 203 #[304, 306, 308] #[{ accessFlags := 25, nameIndex := 310, descriptorIndex := 194, attributes := #[] }, { accessFlags := 25, nameIndex := 312, descriptorIndex := 194, attributes := #[] }, { accessFlags := 25, nameIndex := 302, descriptorIndex := 303, attributes := #[] }, { accessFlags := 24, nameIndex := 19, descriptorIndex := 20, attributes := #[] }, { accessFlags := 24, nameIndex := 89, descriptorIndex := 86, attributes := #[] }, { accessFlags := 24, nameIndex := 85, descriptorIndex := 86, attributes := #[] }, { accessFlags := 18, nameIndex := 207, descriptorIndex := 194, attributes := #[] }, { accessFlags := 25, nameIndex := 316, descriptorIndex := 194, attributes := #[] }, { accessFlags := 25, nameIndex := 318, descriptorIndex := 194, attributes := #[] }, { accessFlags := 26, nameIndex := 320, descriptorIndex := 321, attributes := #[] }])
  fields := #[{ name := "MIN_VALUE", type := .int, accessFlags := 25, slot := 0, constantValue := 0 }, { name := "MAX_VALUE", type := .int, accessFlags := 25, slot := 1, constantValue := 0 }, { name := "TYPE", type := (.object "java/lang/Class"), accessFlags := 25, slot := 2, constantValue := 0 }, { name := "digits", type := (.array .char), accessFlags := 24, slot := 3, constantValue := 0 }, { name := "DigitTens", type := (.array .byte), accessFlags := 24, slot := 4, constantValue := 0 }, { name := "DigitOnes", type := (.array .byte), accessFlags := 24, slot := 5, constantValue := 0 }, { name := "value", type := .int, accessFlags := 18, slot := 0, constantValue := 0 }, { name := "SIZE", type := .int, accessFlags := 25, slot := 6, constantValue := 0 }, { name := "BYTES", type := .int, accessFlags := 25, slot := 7, constantValue := 0 }, { name := "serialVersionUID", type := .long, accessFlags := 26, slot := 8, constantValue := 0 }]
  methods := #[k9m0, k9m1]
  instanceTypes := #[.int]
  staticTypes := #[.int, .int, (.object "java/lang/Class"), (.array .char), (.array .byte), (.array .byte), .int, .int, .long]
  resolved := Array.replicate 453 none
  statics := none }

def pool10 : Array CpInfo := pool [(2, .class_ 4), (1, u "java/lang/Object"), (0, u "<init>"), (0, u "()V"), (0, .class_ 8), (0, u "java/lang/Integer"), (7, .class_ 18), (1, u "java/lang/Integer$IntegerCache"), (0, u "$assertionsDisabled"), (0, u "Z"), (26, u "high"), (0, u "I"), (8, u "archivedCache"), (0, u "[Ljava/lang/Integer;"), (12, u "cache"), (0, u "low")] 27

def k10m0 : Method := { name := "<init>", desc := "()V", sig := { parameters := [], returnType := none }, accessFlags := 2, code := none }
/-- java/lang/Integer$IntegerCache -/
def k10 : Class := { plain "java/lang/Integer$IntegerCache" (some 0) with
  accessFlags := 48
  interfaces := #[]
  cf := some (fileOf pool10 16 #[.nestHost 7] #[{ accessFlags := 2, nameIndex := 5, descriptorIndex := 6, attributes := #[] }] 48 2 #[] #[{ accessFlags := 24, nameIndex := 72, descriptorIndex := 48, attributes := #[] }, { accessFlags := 24, nameIndex := 47, descriptorIndex := 48, attributes := #[] }, { accessFlags := 24, nameIndex := 71, descriptorIndex := 58, attributes := #[] }, { accessFlags := 8, nameIndex := 57, descriptorIndex := 58, attributes := #[] }, { accessFlags := 4120, nameIndex := 19, descriptorIndex := 20, attributes := #[] }])
  fields := #[{ name := "low", type := .int, accessFlags := 24, slot := 0, constantValue := 0 }, { name := "high", type := .int, accessFlags := 24, slot := 1, constantValue := 0 }, { name := "cache", type := (.array (.object "java/lang/Integer")), accessFlags := 24, slot := 2, constantValue := 0 }, { name := "archivedCache", type := (.array (.object "java/lang/Integer")), accessFlags := 8, slot := 3, constantValue := 0 }, { name := "$assertionsDisabled", type := .boolean, accessFlags := 4120, slot := 4, constantValue := 0 }]
  methods := #[k10m0]
  instanceTypes := #[]
  staticTypes := #[.int, .int, (.array (.object "java/lang/Integer")), (.array (.object "java/lang/Integer")), .boolean]
  resolved := Array.replicate 100 none
  statics := some 0 }

def pool11 : Array CpInfo := pool [(1, .methodref 2 3), (0, .class_ 4), (0, .nameAndType 5 6), (0, u "java/lang/Record"), (0, u "<init>"), (0, u "()V"), (0, .fieldref 8 9), (0, .class_ 10), (0, .nameAndType 11 12), (0, u "castkey/card/MskId"), (0, u "keyGroup"), (0, u "I"), (0, .fieldref 8 14), (0, .nameAndType 15 12), (0, u "keyNumber"), (11, u "(II)V"), (12, u "LENGTH")] 40

def k11c0 : Code := { maxStack := 2, maxLocals := 3, code := prog_19_method_1_code, exceptionTable := #[], attributes := #[] }
def k11m0 : Method := { name := "<init>", desc := "(II)V", sig := { parameters := [.int, .int], returnType := none }, accessFlags := 0, code := some k11c0 }
/-- castkey/card/MskId -/
def k11 : Class := { plain "castkey/card/MskId" (some 2) with
  accessFlags := 48
  interfaces := #[]
  cf := some (fileOf pool11 8 #[] #[{ accessFlags := 0, nameIndex := 5, descriptorIndex := 27, attributes := #[] }] 48 2 #[] #[{ accessFlags := 18, nameIndex := 11, descriptorIndex := 12, attributes := #[] }, { accessFlags := 18, nameIndex := 15, descriptorIndex := 12, attributes := #[] }, { accessFlags := 24, nameIndex := 40, descriptorIndex := 12, attributes := #[] }])
  fields := #[{ name := "keyGroup", type := .int, accessFlags := 18, slot := 0, constantValue := 0 }, { name := "keyNumber", type := .int, accessFlags := 18, slot := 1, constantValue := 0 }, { name := "LENGTH", type := .int, accessFlags := 24, slot := 0, constantValue := 0 }]
  methods := #[k11m0]
  instanceTypes := #[.int, .int]
  staticTypes := #[.int]
  resolved := Array.replicate 81 none
  statics := none }

def pool12 : Array CpInfo := pool [(1, u "java/lang/Cloneable"), (0, .class_ 1), (0, u "java/lang/Object"), (0, .class_ 3)] 3

/-- java/lang/Cloneable -/
def k12 : Class := { plain "java/lang/Cloneable" (some 0) with
  accessFlags := 1537
  interfaces := #[]
  cf := some (fileOf pool12 2 #[] #[] 1537 4 #[] #[])
  fields := #[]
  methods := #[]
  instanceTypes := #[]
  staticTypes := #[]
  resolved := Array.replicate 8 none
  statics := none }

/-- the primitive byte -/
def k13 : Class := { plain "byte" none with kind := .primitive 'B', accessFlags := 0x411 }
/-- [B -/
def k14 : Class := { plain "[B" (some 0) with kind := .array 13 .byte, interfaces := #[12, 5], accessFlags := 1041 }

/-- the primitive int -/
def k15 : Class := { plain "int" none with kind := .primitive 'I', accessFlags := 0x411 }
/-- [I -/
def k16 : Class := { plain "[I" (some 0) with kind := .array 15 .int, interfaces := #[12, 5], accessFlags := 1041 }

/-- [Ljava/lang/Integer; -/
def k17 : Class := { plain "[Ljava/lang/Integer;" (some 0) with kind := .array 9 (.object "java/lang/Integer"), interfaces := #[12, 5], accessFlags := 1041 }

def heap : Heap := #[{ cls := 10, slots := #[.int 0, .int 127, .ref 1, .null, .int 0], vm := .statics 10 },
  { cls := 17, slots := #[.ref 2, .ref 3, .ref 4, .ref 5, .ref 6, .ref 7, .ref 8, .ref 9, .ref 10, .ref 11, .ref 12, .ref 13, .ref 14, .ref 15, .ref 16, .ref 17, .ref 18, .ref 19, .ref 20, .ref 21, .ref 22, .ref 23, .ref 24, .ref 25, .ref 26, .ref 27, .ref 28, .ref 29, .ref 30, .ref 31, .ref 32, .ref 33, .ref 34, .ref 35, .ref 36, .ref 37, .ref 38, .ref 39, .ref 40, .ref 41, .ref 42, .ref 43, .ref 44, .ref 45, .ref 46, .ref 47, .ref 48, .ref 49, .ref 50, .ref 51, .ref 52, .ref 53, .ref 54, .ref 55, .ref 56, .ref 57, .ref 58, .ref 59, .ref 60, .ref 61, .ref 62, .ref 63, .ref 64, .ref 65, .ref 66, .ref 67, .ref 68, .ref 69, .ref 70, .ref 71, .ref 72, .ref 73, .ref 74, .ref 75, .ref 76, .ref 77, .ref 78, .ref 79, .ref 80, .ref 81, .ref 82, .ref 83, .ref 84, .ref 85, .ref 86, .ref 87, .ref 88, .ref 89, .ref 90, .ref 91, .ref 92, .ref 93, .ref 94, .ref 95, .ref 96, .ref 97, .ref 98, .ref 99, .ref 100, .ref 101, .ref 102, .ref 103, .ref 104, .ref 105, .ref 106, .ref 107, .ref 108, .ref 109, .ref 110, .ref 111, .ref 112, .ref 113, .ref 114, .ref 115, .ref 116, .ref 117, .ref 118, .ref 119, .ref 120, .ref 121, .ref 122, .ref 123, .ref 124, .ref 125, .ref 126, .ref 127, .ref 128, .ref 129, .ref 130, .ref 131, .ref 132, .ref 133, .ref 134, .ref 135, .ref 136, .ref 137, .ref 138, .ref 139, .ref 140, .ref 141, .ref 142, .ref 143, .ref 144, .ref 145, .ref 146, .ref 147, .ref 148, .ref 149, .ref 150, .ref 151, .ref 152, .ref 153, .ref 154, .ref 155, .ref 156, .ref 157, .ref 158, .ref 159, .ref 160, .ref 161, .ref 162, .ref 163, .ref 164, .ref 165, .ref 166, .ref 167, .ref 168, .ref 169, .ref 170, .ref 171, .ref 172, .ref 173, .ref 174, .ref 175, .ref 176, .ref 177, .ref 178, .ref 179, .ref 180, .ref 181, .ref 182, .ref 183, .ref 184, .ref 185, .ref 186, .ref 187, .ref 188, .ref 189, .ref 190, .ref 191, .ref 192, .ref 193, .ref 194, .ref 195, .ref 196, .ref 197, .ref 198, .ref 199, .ref 200, .ref 201, .ref 202, .ref 203, .ref 204, .ref 205, .ref 206, .ref 207, .ref 208, .ref 209, .ref 210, .ref 211, .ref 212, .ref 213, .ref 214, .ref 215, .ref 216, .ref 217, .ref 218, .ref 219, .ref 220, .ref 221, .ref 222, .ref 223, .ref 224, .ref 225, .ref 226, .ref 227, .ref 228, .ref 229, .ref 230, .ref 231, .ref 232, .ref 233, .ref 234, .ref 235, .ref 236, .ref 237, .ref 238, .ref 239, .ref 240, .ref 241, .ref 242, .ref 243, .ref 244, .ref 245, .ref 246, .ref 247, .ref 248, .ref 249, .ref 250, .ref 251, .ref 252, .ref 253, .ref 254, .ref 255, .ref 256, .ref 257], vm := .none },
  { cls := 9, slots := #[.int (-128)], vm := .none },
  { cls := 9, slots := #[.int (-127)], vm := .none },
  { cls := 9, slots := #[.int (-126)], vm := .none },
  { cls := 9, slots := #[.int (-125)], vm := .none },
  { cls := 9, slots := #[.int (-124)], vm := .none },
  { cls := 9, slots := #[.int (-123)], vm := .none },
  { cls := 9, slots := #[.int (-122)], vm := .none },
  { cls := 9, slots := #[.int (-121)], vm := .none },
  { cls := 9, slots := #[.int (-120)], vm := .none },
  { cls := 9, slots := #[.int (-119)], vm := .none },
  { cls := 9, slots := #[.int (-118)], vm := .none },
  { cls := 9, slots := #[.int (-117)], vm := .none },
  { cls := 9, slots := #[.int (-116)], vm := .none },
  { cls := 9, slots := #[.int (-115)], vm := .none },
  { cls := 9, slots := #[.int (-114)], vm := .none },
  { cls := 9, slots := #[.int (-113)], vm := .none },
  { cls := 9, slots := #[.int (-112)], vm := .none },
  { cls := 9, slots := #[.int (-111)], vm := .none },
  { cls := 9, slots := #[.int (-110)], vm := .none },
  { cls := 9, slots := #[.int (-109)], vm := .none },
  { cls := 9, slots := #[.int (-108)], vm := .none },
  { cls := 9, slots := #[.int (-107)], vm := .none },
  { cls := 9, slots := #[.int (-106)], vm := .none },
  { cls := 9, slots := #[.int (-105)], vm := .none },
  { cls := 9, slots := #[.int (-104)], vm := .none },
  { cls := 9, slots := #[.int (-103)], vm := .none },
  { cls := 9, slots := #[.int (-102)], vm := .none },
  { cls := 9, slots := #[.int (-101)], vm := .none },
  { cls := 9, slots := #[.int (-100)], vm := .none },
  { cls := 9, slots := #[.int (-99)], vm := .none },
  { cls := 9, slots := #[.int (-98)], vm := .none },
  { cls := 9, slots := #[.int (-97)], vm := .none },
  { cls := 9, slots := #[.int (-96)], vm := .none },
  { cls := 9, slots := #[.int (-95)], vm := .none },
  { cls := 9, slots := #[.int (-94)], vm := .none },
  { cls := 9, slots := #[.int (-93)], vm := .none },
  { cls := 9, slots := #[.int (-92)], vm := .none },
  { cls := 9, slots := #[.int (-91)], vm := .none },
  { cls := 9, slots := #[.int (-90)], vm := .none },
  { cls := 9, slots := #[.int (-89)], vm := .none },
  { cls := 9, slots := #[.int (-88)], vm := .none },
  { cls := 9, slots := #[.int (-87)], vm := .none },
  { cls := 9, slots := #[.int (-86)], vm := .none },
  { cls := 9, slots := #[.int (-85)], vm := .none },
  { cls := 9, slots := #[.int (-84)], vm := .none },
  { cls := 9, slots := #[.int (-83)], vm := .none },
  { cls := 9, slots := #[.int (-82)], vm := .none },
  { cls := 9, slots := #[.int (-81)], vm := .none },
  { cls := 9, slots := #[.int (-80)], vm := .none },
  { cls := 9, slots := #[.int (-79)], vm := .none },
  { cls := 9, slots := #[.int (-78)], vm := .none },
  { cls := 9, slots := #[.int (-77)], vm := .none },
  { cls := 9, slots := #[.int (-76)], vm := .none },
  { cls := 9, slots := #[.int (-75)], vm := .none },
  { cls := 9, slots := #[.int (-74)], vm := .none },
  { cls := 9, slots := #[.int (-73)], vm := .none },
  { cls := 9, slots := #[.int (-72)], vm := .none },
  { cls := 9, slots := #[.int (-71)], vm := .none },
  { cls := 9, slots := #[.int (-70)], vm := .none },
  { cls := 9, slots := #[.int (-69)], vm := .none },
  { cls := 9, slots := #[.int (-68)], vm := .none },
  { cls := 9, slots := #[.int (-67)], vm := .none },
  { cls := 9, slots := #[.int (-66)], vm := .none },
  { cls := 9, slots := #[.int (-65)], vm := .none },
  { cls := 9, slots := #[.int (-64)], vm := .none },
  { cls := 9, slots := #[.int (-63)], vm := .none },
  { cls := 9, slots := #[.int (-62)], vm := .none },
  { cls := 9, slots := #[.int (-61)], vm := .none },
  { cls := 9, slots := #[.int (-60)], vm := .none },
  { cls := 9, slots := #[.int (-59)], vm := .none },
  { cls := 9, slots := #[.int (-58)], vm := .none },
  { cls := 9, slots := #[.int (-57)], vm := .none },
  { cls := 9, slots := #[.int (-56)], vm := .none },
  { cls := 9, slots := #[.int (-55)], vm := .none },
  { cls := 9, slots := #[.int (-54)], vm := .none },
  { cls := 9, slots := #[.int (-53)], vm := .none },
  { cls := 9, slots := #[.int (-52)], vm := .none },
  { cls := 9, slots := #[.int (-51)], vm := .none },
  { cls := 9, slots := #[.int (-50)], vm := .none },
  { cls := 9, slots := #[.int (-49)], vm := .none },
  { cls := 9, slots := #[.int (-48)], vm := .none },
  { cls := 9, slots := #[.int (-47)], vm := .none },
  { cls := 9, slots := #[.int (-46)], vm := .none },
  { cls := 9, slots := #[.int (-45)], vm := .none },
  { cls := 9, slots := #[.int (-44)], vm := .none },
  { cls := 9, slots := #[.int (-43)], vm := .none },
  { cls := 9, slots := #[.int (-42)], vm := .none },
  { cls := 9, slots := #[.int (-41)], vm := .none },
  { cls := 9, slots := #[.int (-40)], vm := .none },
  { cls := 9, slots := #[.int (-39)], vm := .none },
  { cls := 9, slots := #[.int (-38)], vm := .none },
  { cls := 9, slots := #[.int (-37)], vm := .none },
  { cls := 9, slots := #[.int (-36)], vm := .none },
  { cls := 9, slots := #[.int (-35)], vm := .none },
  { cls := 9, slots := #[.int (-34)], vm := .none },
  { cls := 9, slots := #[.int (-33)], vm := .none },
  { cls := 9, slots := #[.int (-32)], vm := .none },
  { cls := 9, slots := #[.int (-31)], vm := .none },
  { cls := 9, slots := #[.int (-30)], vm := .none },
  { cls := 9, slots := #[.int (-29)], vm := .none },
  { cls := 9, slots := #[.int (-28)], vm := .none },
  { cls := 9, slots := #[.int (-27)], vm := .none },
  { cls := 9, slots := #[.int (-26)], vm := .none },
  { cls := 9, slots := #[.int (-25)], vm := .none },
  { cls := 9, slots := #[.int (-24)], vm := .none },
  { cls := 9, slots := #[.int (-23)], vm := .none },
  { cls := 9, slots := #[.int (-22)], vm := .none },
  { cls := 9, slots := #[.int (-21)], vm := .none },
  { cls := 9, slots := #[.int (-20)], vm := .none },
  { cls := 9, slots := #[.int (-19)], vm := .none },
  { cls := 9, slots := #[.int (-18)], vm := .none },
  { cls := 9, slots := #[.int (-17)], vm := .none },
  { cls := 9, slots := #[.int (-16)], vm := .none },
  { cls := 9, slots := #[.int (-15)], vm := .none },
  { cls := 9, slots := #[.int (-14)], vm := .none },
  { cls := 9, slots := #[.int (-13)], vm := .none },
  { cls := 9, slots := #[.int (-12)], vm := .none },
  { cls := 9, slots := #[.int (-11)], vm := .none },
  { cls := 9, slots := #[.int (-10)], vm := .none },
  { cls := 9, slots := #[.int (-9)], vm := .none },
  { cls := 9, slots := #[.int (-8)], vm := .none },
  { cls := 9, slots := #[.int (-7)], vm := .none },
  { cls := 9, slots := #[.int (-6)], vm := .none },
  { cls := 9, slots := #[.int (-5)], vm := .none },
  { cls := 9, slots := #[.int (-4)], vm := .none },
  { cls := 9, slots := #[.int (-3)], vm := .none },
  { cls := 9, slots := #[.int (-2)], vm := .none },
  { cls := 9, slots := #[.int (-1)], vm := .none },
  { cls := 9, slots := #[.int 0], vm := .none },
  { cls := 9, slots := #[.int 1], vm := .none },
  { cls := 9, slots := #[.int 2], vm := .none },
  { cls := 9, slots := #[.int 3], vm := .none },
  { cls := 9, slots := #[.int 4], vm := .none },
  { cls := 9, slots := #[.int 5], vm := .none },
  { cls := 9, slots := #[.int 6], vm := .none },
  { cls := 9, slots := #[.int 7], vm := .none },
  { cls := 9, slots := #[.int 8], vm := .none },
  { cls := 9, slots := #[.int 9], vm := .none },
  { cls := 9, slots := #[.int 10], vm := .none },
  { cls := 9, slots := #[.int 11], vm := .none },
  { cls := 9, slots := #[.int 12], vm := .none },
  { cls := 9, slots := #[.int 13], vm := .none },
  { cls := 9, slots := #[.int 14], vm := .none },
  { cls := 9, slots := #[.int 15], vm := .none },
  { cls := 9, slots := #[.int 16], vm := .none },
  { cls := 9, slots := #[.int 17], vm := .none },
  { cls := 9, slots := #[.int 18], vm := .none },
  { cls := 9, slots := #[.int 19], vm := .none },
  { cls := 9, slots := #[.int 20], vm := .none },
  { cls := 9, slots := #[.int 21], vm := .none },
  { cls := 9, slots := #[.int 22], vm := .none },
  { cls := 9, slots := #[.int 23], vm := .none },
  { cls := 9, slots := #[.int 24], vm := .none },
  { cls := 9, slots := #[.int 25], vm := .none },
  { cls := 9, slots := #[.int 26], vm := .none },
  { cls := 9, slots := #[.int 27], vm := .none },
  { cls := 9, slots := #[.int 28], vm := .none },
  { cls := 9, slots := #[.int 29], vm := .none },
  { cls := 9, slots := #[.int 30], vm := .none },
  { cls := 9, slots := #[.int 31], vm := .none },
  { cls := 9, slots := #[.int 32], vm := .none },
  { cls := 9, slots := #[.int 33], vm := .none },
  { cls := 9, slots := #[.int 34], vm := .none },
  { cls := 9, slots := #[.int 35], vm := .none },
  { cls := 9, slots := #[.int 36], vm := .none },
  { cls := 9, slots := #[.int 37], vm := .none },
  { cls := 9, slots := #[.int 38], vm := .none },
  { cls := 9, slots := #[.int 39], vm := .none },
  { cls := 9, slots := #[.int 40], vm := .none },
  { cls := 9, slots := #[.int 41], vm := .none },
  { cls := 9, slots := #[.int 42], vm := .none },
  { cls := 9, slots := #[.int 43], vm := .none },
  { cls := 9, slots := #[.int 44], vm := .none },
  { cls := 9, slots := #[.int 45], vm := .none },
  { cls := 9, slots := #[.int 46], vm := .none },
  { cls := 9, slots := #[.int 47], vm := .none },
  { cls := 9, slots := #[.int 48], vm := .none },
  { cls := 9, slots := #[.int 49], vm := .none },
  { cls := 9, slots := #[.int 50], vm := .none },
  { cls := 9, slots := #[.int 51], vm := .none },
  { cls := 9, slots := #[.int 52], vm := .none },
  { cls := 9, slots := #[.int 53], vm := .none },
  { cls := 9, slots := #[.int 54], vm := .none },
  { cls := 9, slots := #[.int 55], vm := .none },
  { cls := 9, slots := #[.int 56], vm := .none },
  { cls := 9, slots := #[.int 57], vm := .none },
  { cls := 9, slots := #[.int 58], vm := .none },
  { cls := 9, slots := #[.int 59], vm := .none },
  { cls := 9, slots := #[.int 60], vm := .none },
  { cls := 9, slots := #[.int 61], vm := .none },
  { cls := 9, slots := #[.int 62], vm := .none },
  { cls := 9, slots := #[.int 63], vm := .none },
  { cls := 9, slots := #[.int 64], vm := .none },
  { cls := 9, slots := #[.int 65], vm := .none },
  { cls := 9, slots := #[.int 66], vm := .none },
  { cls := 9, slots := #[.int 67], vm := .none },
  { cls := 9, slots := #[.int 68], vm := .none },
  { cls := 9, slots := #[.int 69], vm := .none },
  { cls := 9, slots := #[.int 70], vm := .none },
  { cls := 9, slots := #[.int 71], vm := .none },
  { cls := 9, slots := #[.int 72], vm := .none },
  { cls := 9, slots := #[.int 73], vm := .none },
  { cls := 9, slots := #[.int 74], vm := .none },
  { cls := 9, slots := #[.int 75], vm := .none },
  { cls := 9, slots := #[.int 76], vm := .none },
  { cls := 9, slots := #[.int 77], vm := .none },
  { cls := 9, slots := #[.int 78], vm := .none },
  { cls := 9, slots := #[.int 79], vm := .none },
  { cls := 9, slots := #[.int 80], vm := .none },
  { cls := 9, slots := #[.int 81], vm := .none },
  { cls := 9, slots := #[.int 82], vm := .none },
  { cls := 9, slots := #[.int 83], vm := .none },
  { cls := 9, slots := #[.int 84], vm := .none },
  { cls := 9, slots := #[.int 85], vm := .none },
  { cls := 9, slots := #[.int 86], vm := .none },
  { cls := 9, slots := #[.int 87], vm := .none },
  { cls := 9, slots := #[.int 88], vm := .none },
  { cls := 9, slots := #[.int 89], vm := .none },
  { cls := 9, slots := #[.int 90], vm := .none },
  { cls := 9, slots := #[.int 91], vm := .none },
  { cls := 9, slots := #[.int 92], vm := .none },
  { cls := 9, slots := #[.int 93], vm := .none },
  { cls := 9, slots := #[.int 94], vm := .none },
  { cls := 9, slots := #[.int 95], vm := .none },
  { cls := 9, slots := #[.int 96], vm := .none },
  { cls := 9, slots := #[.int 97], vm := .none },
  { cls := 9, slots := #[.int 98], vm := .none },
  { cls := 9, slots := #[.int 99], vm := .none },
  { cls := 9, slots := #[.int 100], vm := .none },
  { cls := 9, slots := #[.int 101], vm := .none },
  { cls := 9, slots := #[.int 102], vm := .none },
  { cls := 9, slots := #[.int 103], vm := .none },
  { cls := 9, slots := #[.int 104], vm := .none },
  { cls := 9, slots := #[.int 105], vm := .none },
  { cls := 9, slots := #[.int 106], vm := .none },
  { cls := 9, slots := #[.int 107], vm := .none },
  { cls := 9, slots := #[.int 108], vm := .none },
  { cls := 9, slots := #[.int 109], vm := .none },
  { cls := 9, slots := #[.int 110], vm := .none },
  { cls := 9, slots := #[.int 111], vm := .none },
  { cls := 9, slots := #[.int 112], vm := .none },
  { cls := 9, slots := #[.int 113], vm := .none },
  { cls := 9, slots := #[.int 114], vm := .none },
  { cls := 9, slots := #[.int 115], vm := .none },
  { cls := 9, slots := #[.int 116], vm := .none },
  { cls := 9, slots := #[.int 117], vm := .none },
  { cls := 9, slots := #[.int 118], vm := .none },
  { cls := 9, slots := #[.int 119], vm := .none },
  { cls := 9, slots := #[.int 120], vm := .none },
  { cls := 9, slots := #[.int 121], vm := .none },
  { cls := 9, slots := #[.int 122], vm := .none },
  { cls := 9, slots := #[.int 123], vm := .none },
  { cls := 9, slots := #[.int 124], vm := .none },
  { cls := 9, slots := #[.int 125], vm := .none },
  { cls := 9, slots := #[.int 126], vm := .none },
  { cls := 9, slots := #[.int 127], vm := .none }]
def classes : Array Class := #[k0, k1, k2, k3, k4, k5, k6, k7, k8, k9, k10, k11, k12, k13, k14, k15, k16, k17]
def interned : List (Array UInt16 × Addr) := []
def slotsUsed : Nat := 517
def theMethod : MethodId := ⟨1, 1⟩
def args0 : Array Value := #[.int 5, .int 5, .int 5, .int 5, .int 5, .int 5]
def aboutOver (below : List Frame) : State where
  vm := { classes := classes, interned := interned.toArray }
  heap := heap
  slotsUsed := slotsUsed
  threads := #[{ frames := .invoking theMethod args0 :: below }]
def below0 : List Frame := [.native { method := ⟨0, 0⟩, args := #[] }]
def about1 : State := aboutOver below0
def p0 : Program := .bare "" "" ""
def e0 : Env := launch0.env 0 0 0
theorem w_frames : about1.frames = Frame.invoking theMethod args0 :: below0 := rfl
set_option maxRecDepth 65536 in
theorem w_args : argsFit about1.vm theMethod args0 = true := by decide +kernel
set_option maxRecDepth 65536 in
theorem w_heap : heapFits about1 = true := by decide +kernel
set_option maxRecDepth 65536 in
theorem w_runnable : about1.curStatus? = some .runnable := by decide +kernel
set_option maxRecDepth 65536 in
theorem w_alone : about1.alone = true := by decide +kernel
set_option maxRecDepth 65536 in
theorem w_named : about1.methodNamed? x = some theMethod := by decide +kernel
set_option maxRecDepth 65536 in
theorem w_hears : about1.hears theMethod below0 = true := by decide +kernel
set_option maxRecDepth 65536 in
theorem w_ripe : about1.ripe theMethod args0 below0 = true := by decide +kernel
theorem w_running : about1.status = .running := rfl
set_option maxRecDepth 65536 in
theorem w_room : about1.hasRoom e0.platform room_1 = true :=
  launch0.hasRoom_least _ room_1 (by decide +kernel) (by decide +kernel) (by decide +kernel) (by decide +kernel) (by decide +kernel) (by decide +kernel)
theorem allAtoms_all (ts : List Jvm.Cond) (a : Array Jvm.Value) (st : Jvm.State) : (allAtoms ts).before a st = ts.all (fun c => c.before a st) := by
  induction ts with
  | nil => rfl
  | cons c t ih =>
    show (Jvm.Cond.and c (allAtoms t)).before a st = _
    rw [Jvm.Cond.before_and, ih, List.all_cons]
def words1 : List Jvm.Cond := Jvm.Cond.code x code maxLocals ret :: tables_1
/-- a 'code' word, met by the world's own term for the bytes: nothing is compared byte by byte -/
theorem code_word {y : MethodName} {bytes : ByteArray} {mx : Nat} {rt : Option FieldType} {a : Array Value} {s : State} {m : MethodId} {meth : Method} {c : Code} (h1 : s.methodNamed? y = some m) (h2 : s.vm.method? m = some meth) (h3 : meth.code = some c) (h4 : c.code = bytes)
    (h5 : (c.maxLocals == mx && c.exceptionTable.isEmpty && decide (c.maxStack ≤ mostOperands) && decide (meth.sig.returnType = rt) && !meth.locks && decide (parseMethodDescriptor y.desc = some meth.sig)) = true) : (Jvm.Cond.code y bytes mx rt).before a s = true := by
  simp only [Bool.and_eq_true, beq_iff_eq, Bool.not_eq_true', decide_eq_true_eq] at h5
  obtain ⟨⟨⟨⟨⟨g1, g2⟩, g3⟩, g4⟩, g5⟩, g6⟩ := h5
  simp [Cond.before, Cond.holds, Cond.value, h1, h2, h3, h4, g1, g2, g3, g4, g5, g6]
def isCode : Jvm.Cond → Bool
  | .code _ _ _ _ => true
  | _ => false
theorem all_split {L : List Jvm.Cond} {P : Jvm.Cond → Bool} (h1 : L.all (fun c => isCode c || P c) = true) (h2 : ∀ c ∈ L.filter isCode, P c = true) : L.all P = true := by
  refine List.all_eq_true.mpr fun c hc => ?_
  have h := List.all_eq_true.mp h1 c hc
  rcases Bool.eq_false_or_eq_true (isCode c) with hi | hi
  · exact h2 c (List.mem_filter.mpr ⟨hc, hi⟩)
  · simpa [hi] using h
set_option maxRecDepth 65536 in
theorem w_c0 : (Jvm.Cond.code x code maxLocals ret).before args0 about1 = true := code_word (m := ⟨1, 1⟩) (meth := k1m1) (c := k1c1) (by decide +kernel) rfl rfl rfl (by decide +kernel)
set_option maxRecDepth 65536 in
theorem w_c1 : (Jvm.Cond.code ({ cls := "castkey/card/KeyId", name := "<init>", desc := "(III)V" } : Jvm.MethodName) prog_9_method_1_code (4 : Nat) (Option.none : Option Jvm.ClassFile.FieldType)).before args0 about1 = true := code_word (m := ⟨4, 0⟩) (meth := k4m0) (c := k4c0) (by decide +kernel) rfl rfl rfl (by decide +kernel)
set_option maxRecDepth 65536 in
theorem w_c2 : (Jvm.Cond.code ({ cls := "java/lang/Record", name := "<init>", desc := "()V" } : Jvm.MethodName) jdk_30_method_1_code (1 : Nat) (Option.none : Option Jvm.ClassFile.FieldType)).before args0 about1 = true := code_word (m := ⟨2, 0⟩) (meth := k2m0) (c := k2c0) (by decide +kernel) rfl rfl rfl (by decide +kernel)
set_option maxRecDepth 65536 in
theorem w_c3 : (Jvm.Cond.code ({ cls := "java/lang/Object", name := "<init>", desc := "()V" } : Jvm.MethodName) object_method_1_code (1 : Nat) (Option.none : Option Jvm.ClassFile.FieldType)).before args0 about1 = true := code_word (m := ⟨0, 0⟩) (meth := k0m0) (c := k0c0) (by decide +kernel) rfl rfl rfl (by decide +kernel)
set_option maxRecDepth 65536 in
theorem w_c4 : (Jvm.Cond.code ({ cls := "castkey/card/KeyId", name := "equals", desc := "(Ljava/lang/Object;)Z" } : Jvm.MethodName) prog_9_method_3_code (3 : Nat) (Option.some Jvm.ClassFile.FieldType.boolean)).before args0 about1 = true := code_word (m := ⟨4, 1⟩) (meth := k4m1) (c := k4c1) (by decide +kernel) rfl rfl rfl (by decide +kernel)
set_option maxRecDepth 65536 in
theorem w_c5 : (Jvm.Cond.code ({ cls := "java/lang/Integer", name := "valueOf", desc := "(I)Ljava/lang/Integer;" } : Jvm.MethodName) jdk_33_method_22_code (1 : Nat) (Option.some (Jvm.ClassFile.FieldType.object "java/lang/Integer"))).before args0 about1 = true := code_word (m := ⟨9, 0⟩) (meth := k9m0) (c := k9c0) (by decide +kernel) rfl rfl rfl (by decide +kernel)
set_option maxRecDepth 65536 in
theorem w_c6 : (Jvm.Cond.code ({ cls := "castkey/card/MskId", name := "<init>", desc := "(II)V" } : Jvm.MethodName) prog_19_method_1_code (3 : Nat) (Option.none : Option Jvm.ClassFile.FieldType)).before args0 about1 = true := code_word (m := ⟨11, 0⟩) (meth := k11m0) (c := k11c0) (by decide +kernel) rfl rfl rfl (by decide +kernel)
set_option maxRecDepth 65536 in
theorem w_c7 : (Jvm.Cond.code ({ cls := "java/lang/Integer", name := "<init>", desc := "(I)V" } : Jvm.MethodName) jdk_33_method_23_code (2 : Nat) (Option.none : Option Jvm.ClassFile.FieldType)).before args0 about1 = true := code_word (m := ⟨9, 1⟩) (meth := k9m1) (c := k9c1) (by decide +kernel) rfl rfl rfl (by decide +kernel)
set_option maxRecDepth 65536 in
theorem w_c8 : (Jvm.Cond.code ({ cls := "java/lang/Number", name := "<init>", desc := "()V" } : Jvm.MethodName) jdk_18_method_1_code (1 : Nat) (Option.none : Option Jvm.ClassFile.FieldType)).before args0 about1 = true := code_word (m := ⟨6, 0⟩) (meth := k6m0) (c := k6c0) (by decide +kernel) rfl rfl rfl (by decide +kernel)
def codes1 : List Jvm.Cond := [Jvm.Cond.code x code maxLocals ret, Jvm.Cond.code ({ cls := "castkey/card/KeyId", name := "<init>", desc := "(III)V" } : Jvm.MethodName) prog_9_method_1_code (4 : Nat) (Option.none : Option Jvm.ClassFile.FieldType), Jvm.Cond.code ({ cls := "java/lang/Record", name := "<init>", desc := "()V" } : Jvm.MethodName) jdk_30_method_1_code (1 : Nat) (Option.none : Option Jvm.ClassFile.FieldType), Jvm.Cond.code ({ cls := "java/lang/Object", name := "<init>", desc := "()V" } : Jvm.MethodName) object_method_1_code (1 : Nat) (Option.none : Option Jvm.ClassFile.FieldType), Jvm.Cond.code ({ cls := "castkey/card/KeyId", name := "equals", desc := "(Ljava/lang/Object;)Z" } : Jvm.MethodName) prog_9_method_3_code (3 : Nat) (Option.some Jvm.ClassFile.FieldType.boolean), Jvm.Cond.code ({ cls := "java/lang/Integer", name := "valueOf", desc := "(I)Ljava/lang/Integer;" } : Jvm.MethodName) jdk_33_method_22_code (1 : Nat) (Option.some (Jvm.ClassFile.FieldType.object "java/lang/Integer")), Jvm.Cond.code ({ cls := "castkey/card/MskId", name := "<init>", desc := "(II)V" } : Jvm.MethodName) prog_19_method_1_code (3 : Nat) (Option.none : Option Jvm.ClassFile.FieldType), Jvm.Cond.code ({ cls := "java/lang/Integer", name := "<init>", desc := "(I)V" } : Jvm.MethodName) jdk_33_method_23_code (2 : Nat) (Option.none : Option Jvm.ClassFile.FieldType), Jvm.Cond.code ({ cls := "java/lang/Number", name := "<init>", desc := "()V" } : Jvm.MethodName) jdk_18_method_1_code (1 : Nat) (Option.none : Option Jvm.ClassFile.FieldType)]
set_option maxRecDepth 65536 in
theorem codes_eq : words1.filter isCode = codes1 := rfl
theorem w_codes : ∀ c ∈ words1.filter isCode, c.before args0 about1 = true := by
  rw [codes_eq]
  intro c hc
  simp only [codes1, List.mem_cons, List.not_mem_nil, or_false] at hc
  rcases hc with rfl | rfl | rfl | rfl | rfl | rfl | rfl | rfl | rfl
  · exact w_c0
  · exact w_c1
  · exact w_c2
  · exact w_c3
  · exact w_c4
  · exact w_c5
  · exact w_c6
  · exact w_c7
  · exact w_c8
set_option maxRecDepth 65536 in
theorem w_t1 : (words1.take 24).all (fun c => isCode c || c.before args0 about1) = true := by decide +kernel
set_option maxRecDepth 65536 in
theorem w_t2 : ((words1.drop 24).take 24).all (fun c => isCode c || c.before args0 about1) = true := by decide +kernel
set_option maxRecDepth 65536 in
theorem w_t3 : ((words1.drop 24).drop 24).all (fun c => isCode c || c.before args0 about1) = true := by decide +kernel
theorem w_tables : (allAtoms (Jvm.Cond.code x code maxLocals ret :: tables_1)).before args0 about1 = true := by
  rw [allAtoms_all]
  show words1.all (fun c => c.before args0 about1) = true
  refine all_split ?_ w_codes
  rw [← List.take_append_drop 24 words1, List.all_append, w_t1, ← List.take_append_drop 24 (words1.drop 24), List.all_append, w_t2, w_t3]
  rfl
set_option maxRecDepth 65536 in
theorem w_rest : rest_1_c.before args0 about1 = true := by decide +kernel
set_option maxRecDepth 65536 in
theorem w_case : (Jvm.Cond.and given_1 narrow_1).before args0 about1 = true := by decide +kernel
theorem w_applies : (headSpec (Jvm.Cond.code x code maxLocals ret :: tables_1) room_1).applies x e0.platform about1 = true :=
  (Spec.applies_iff w_frames).mpr ⟨w_running, w_runnable, w_alone, w_named, w_hears, w_ripe, w_room, w_tables⟩
theorem atStart : AtStart classFile x code maxLocals ret World_1 tables_1 room_1 Calls_1 rest_1 Pre_1 launch0 p0 e0 about1 theMethod args0 below0 :=
  ⟨lists_1, trivial, launch0.admits_env _ _ _, launch0.least_env, fairChoices_fair.cas, fairChoices_fair.clock, w_frames, w_args, w_heap, w_applies, trivial, w_rest, w_case⟩
end start1
theorem witness_1 : WitnessClaimed_1 := ⟨start1.p0, start1.e0, start1.about1, start1.theMethod, start1.args0, start1.below0, start1.atStart⟩
end Jvm.Pilot.@@N@@
