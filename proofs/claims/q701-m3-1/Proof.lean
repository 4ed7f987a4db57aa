import JvmDerived
import JvmDerived.Pilot.@@N@@Statement
import JvmDerived.Pilot.@@N@@Code
set_option linter.unusedVariables false
set_option linter.unusedSimpArgs false
namespace Jvm.Pilot.@@N@@.OwnKit
open Jvm Sem ClassFile Op Lib Jvm.Stand Jvm.Free Jvm.LawKit Jvm.RoadKit
section New
variable {p : Program} {l : Launch} {e : Env} {R : Room} {s : State} {m : MethodId} {args : Array Value} {below : List Frame} {meth : Method} {c : Code} {T : State} {locs : List Loc} {cells slots : Nat}
theorem retI (X : Stand p l e R s m args below meth c T locs cells slots) (hx : p.tables.exec = Jvm.exec) {pc : Nat} {Ls : Array Slot} {z : Int32} {rest : List Value} (hret : meth.sig.returnType = some .int) (hd : decode c.code pc = .ok (.ireturn, 1)) {fs : List Frame}
    (hl : ∀ (f : JFrame) (acts : List Action), f.method = m → f.locked = none → f.entered = [] → (doReturn e (T.setTop f) acts (some (.int z))).1 = T.setFrames fs) : Steps p.tables e below (T.setTop (mkF m pc Ls (.int z :: rest))) (T.setFrames fs) :=
  retOut X hx hret rfl (Or.inl ⟨rfl, Or.inl rfl, _, rfl⟩) hd hl
theorem lremM {g : JFrame} {target : State} (X : Stand p l e R s m args below meth c T locs cells slots) (hx : p.tables.exec = Jvm.exec) (hg : g.method = m) {x y : Int64} {rest : List Value} (hd : decode c.code g.pc = .ok (.lrem, 1)) (hs : g.stack = .long y :: .long x :: rest) (hy : y ≠ 0)
    (hr : Steps p.tables e below (T.setTop { g with pc := g.pc + 1, stack := .long (x % y) :: rest }) target) : Steps p.tables e below (T.setTop g) target := by
  have q : x - x / y * y = x % y := by
    have g1 := rng64 (x % y)
    have g2 : (x % y).toInt = x.toInt.tmod y.toInt := Int64.toInt_mod x y
    have g3 := Int.tmod_def x.toInt y.toInt
    have g4 : (x / y).toInt = (x.toInt.tdiv y.toInt).bmod (2 ^ 64) := Int64.toInt_div x y
    apply Int64.toInt_inj.mp
    rw [Int64.toInt_sub, Int64.toInt_mul, g4, Int.bmod_mul_bmod, Int.sub_bmod_bmod, Int.mul_comm (x.toInt.tdiv y.toInt), ← g3, ← g2]
    exact Int.bmod_eq_of_le_mul_two (by omega) (by omega)
  exact XS.lrem X.here hx hg hd hs hy (by rw [q]; exact hr)
end New
/-- from here the run ends, and as G says -/
def Goes (tb : Tables) (e : Env) (below : List Frame) (t : State) (G : State → Outcome → Prop) : Prop := ∃ s₂ o, Steps tb e below t s₂ ∧ s₂.status = .running ∧ Ended s₂ below o ∧ G s₂ o
variable {tb : Tables} {e : Env} {below : List Frame} {t t' : State} {G : State → Outcome → Prop}
theorem Goes.by (k : ∀ u, Steps tb e below t' u → Steps tb e below t u) (h : Goes tb e below t' G) : Goes tb e below t G := by
  obtain ⟨s₂, o, h1, h2⟩ := h; exact ⟨s₂, o, k _ h1, h2⟩
theorem Goes.via (k : Steps tb e below t t') (h : Goes tb e below t' G) : Goes tb e below t G := by
  obtain ⟨s₂, o, h1, h2⟩ := h; exact ⟨s₂, o, k.trans h1, h2⟩
theorem jl_t {x y : Int64} (h : x < y) : ifCond.holds .lt (lcmpW x y) = true ∧ ifCond.holds .ge (lcmpW x y) = false := ⟨(if0 _ _).trans (tlt ((lw_lt x y).mpr h)).1, (if0 _ _).trans (tlt ((lw_lt x y).mpr h)).2.1⟩
theorem jl_f {x y : Int64} (h : ¬ x < y) : ifCond.holds .lt (lcmpW x y) = false ∧ ifCond.holds .ge (lcmpW x y) = true := ⟨(if0 _ _).trans (flt (fun q => h ((lw_lt x y).mp q))).1, (if0 _ _).trans (flt (fun q => h ((lw_lt x y).mp q))).2.1⟩
theorem jg_t {x y : Int64} (h : y < x) : ifCond.holds .gt (lcmpW x y) = true ∧ ifCond.holds .le (lcmpW x y) = false := ⟨(if0 _ _).trans (tlt ((lw_gt x y).mpr h)).2.2.1, (if0 _ _).trans (tlt ((lw_gt x y).mpr h)).2.2.2⟩
theorem jg_f {x y : Int64} (h : ¬ y < x) : ifCond.holds .gt (lcmpW x y) = false ∧ ifCond.holds .le (lcmpW x y) = true := ⟨(if0 _ _).trans (flt (fun q => h ((lw_gt x y).mp q))).2.2.1, (if0 _ _).trans (flt (fun q => h ((lw_gt x y).mp q))).2.2.2⟩
theorem je_t {x y : Int64} (h : x = y) : ifCond.holds .eq (lcmpW x y) = true ∧ ifCond.holds .ne (lcmpW x y) = false := ⟨(if0 _ _).trans (teq ((lw_eq x y).mpr h)).1, (if0 _ _).trans (teq ((lw_eq x y).mpr h)).2⟩
theorem je_f {x y : Int64} (h : ¬ x = y) : ifCond.holds .eq (lcmpW x y) = false ∧ ifCond.holds .ne (lcmpW x y) = true := ⟨(if0 _ _).trans (feq (fun q => h ((lw_eq x y).mp q))).1, (if0 _ _).trans (feq (fun q => h ((lw_eq x y).mp q))).2⟩
theorem selP {Z s : State} {a0 args : Array Value} {y : MethodName} {n : Nat} (hZ : Z.Warmed39 s.vm) (wi : (Cond.instantiable y.cls n).before a0 Z = true) (wp : (Cond.privateMethod y).before a0 Z = true) (win : (Cond.instanceMethod y).before a0 Z = true) (hy : y.cls ≠ "java/lang/invoke/MethodHandle" ∧ y.cls ≠ "java/lang/invoke/VarHandle") : (Cond.selects y.cls y y).before args s = true := by
  have w1 : (Cond.instantiable y.cls n).before args s = true := mv hZ wi
  obtain ⟨c, k, h1, h2, -, h4, -⟩ := Cond.instantiable_spec w1
  rw [Bool.or_eq_false_iff] at h4
  exact selects_self_of_private h1 h2 h4.1 (Cond.privateMethod_at (mvP hZ wp (args := args))) (mv hZ win) hy
theorem narR {t : FieldType} {w : Value} (h : t.isReference = true) : narrow t w = w := by cases t <;> first | (cases h; done) | (cases w <;> rfl)
end Jvm.Pilot.@@N@@.OwnKit
namespace Jvm.Pilot.@@N@@.OwnKit
open Jvm Sem ClassFile Op Lib Jvm.Stand Jvm.Free Jvm.LawKit Jvm.RoadKit
/-- one place of a function turned -/
def up {α : Type} (f : Nat → α) (i : Nat) (v : α) : Nat → α := fun j => if j = i then v else f j
/-- an array of n places; place j holds f j -/
def Ar (Z : State) (h : Heap) (a : Addr) (ty : FieldType) (n : Nat) (f : Nat → Value) : Prop := ∃ c : Cell, Arr Z h a c ty ∧ c.slots.size = n ∧ n < 2 ^ 31 ∧ ∀ j, j < n → c.slots[j]? = some (f j) ∧ fits ty (f j) = true
def AI (Z : State) (h : Heap) (a : Addr) (ty : FieldType) (n : Nat) (f : Nat → Int32) : Prop := Ar Z h a ty n (fun j => .int (f j))
def AJ (Z : State) (h : Heap) (a : Addr) (n : Nat) (f : Nat → Int64) : Prop := Ar Z h a .long n (fun j => .long (f j))
section Facts
variable {Z : State} {h h' : Heap} {a b : Addr} {ty : FieldType} {n sl : Nat} {f : Nat → Value} {g : Nat → Int32} {k : Nat → Int64} {v : Value} {ws : List Addr}
theorem up_at {α : Type} (f : Nat → α) (i : Nat) (v : α) : up f i v i = v := if_pos rfl
theorem up_ne {α : Type} (f : Nat → α) {i j : Nat} (v : α) (q : j ≠ i) : up f i v j = f j := if_neg q
theorem Ar.lt (A : Ar Z h a ty n f) : a < h.size := by obtain ⟨c, A, -⟩ := A; exact A.lt
theorem Ar.ext (A : Ar Z h a ty n f) (E : Ext h h') : Ar Z h' a ty n f := by obtain ⟨c, A, r⟩ := A; exact ⟨c, A.ext E, r⟩
theorem Ar.other (A : Ar Z h b ty n f) (W : Wr h h' a sl v) (q : b ≠ a) : Ar Z h' b ty n f := by obtain ⟨c, A, r⟩ := A; exact ⟨c, A.other W q, r⟩
theorem Ar.keep (A : Ar Z h a ty n f) (K : Keep h h' ws) (q : a ∉ ws) : Ar Z h' a ty n f := by obtain ⟨c, A, r⟩ := A; exact ⟨c, ⟨K.2.1 a c A.1 q, A.2⟩, r⟩
theorem own_setSlot (c : Cell) (i : Nat) (v : Value) : (c.setSlot i v).slots = c.slots.setIfInBounds i v := rfl
theorem Ar.wr (A : Ar Z h a ty n f) (W : Wr h h' a sl v) (hf : fits ty v = true) : Ar Z h' a ty n (up f sl v) := by
  obtain ⟨c, A, S, M, G⟩ := A
  refine ⟨c.setSlot sl v, A.same W, by rw [sz_set]; exact S, M, fun j hj => ?_⟩
  by_cases q : j = sl
  · subst q; rw [up_at, own_setSlot, Array.getElem?_setIfInBounds_self_of_lt (by omega)]; exact ⟨rfl, hf⟩
  · rw [up_ne f v q, own_setSlot, Array.getElem?_setIfInBounds_ne (Ne.symm q)]; exact G j hj
theorem Ar.congr {f' : Nat → Value} (A : Ar Z h a ty n f) (q : ∀ j, j < n → f j = f' j) : Ar Z h a ty n f' := by
  obtain ⟨c, A, S, M, G⟩ := A; exact ⟨c, A, S, M, fun j hj => by rw [← q j hj]; exact G j hj⟩
theorem AI.lt (A : AI Z h a ty n g) : a < h.size := Ar.lt A
theorem AI.ext (A : AI Z h a ty n g) (E : Ext h h') : AI Z h' a ty n g := Ar.ext A E
theorem AI.other (A : AI Z h b ty n g) (W : Wr h h' a sl v) (q : b ≠ a) : AI Z h' b ty n g := Ar.other A W q
theorem AI.keep (A : AI Z h a ty n g) (K : Keep h h' ws) (q : a ∉ ws) : AI Z h' a ty n g := Ar.keep A K q
theorem AI.wr {x : Int32} (A : AI Z h a ty n g) (W : Wr h h' a sl (.int x)) (hf : fits ty (.int x) = true) : AI Z h' a ty n (up g sl x) :=
  (Ar.wr A W hf).congr fun j _ => by simp only [up]; split <;> rfl
theorem AI.congr {g' : Nat → Int32} (A : AI Z h a ty n g) (q : ∀ j, j < n → g j = g' j) : AI Z h a ty n g' := Ar.congr A fun j hj => by rw [q j hj]
theorem AJ.lt (A : AJ Z h a n k) : a < h.size := Ar.lt A
theorem AJ.ext (A : AJ Z h a n k) (E : Ext h h') : AJ Z h' a n k := Ar.ext A E
theorem AJ.other (A : AJ Z h b n k) (W : Wr h h' a sl v) (q : b ≠ a) : AJ Z h' b n k := Ar.other A W q
theorem AJ.keep (A : AJ Z h a n k) (K : Keep h h' ws) (q : a ∉ ws) : AJ Z h' a n k := Ar.keep A K q
theorem AJ.wr {x : Int64} (A : AJ Z h a n k) (W : Wr h h' a sl (.long x)) : AJ Z h' a n (up k sl x) :=
  (Ar.wr A W rfl).congr fun j _ => by simp only [up]; split <;> rfl
theorem AJ.congr {k' : Nat → Int64} (A : AJ Z h a n k) (q : ∀ j, j < n → k j = k' j) : AJ Z h a n k' := Ar.congr A fun j hj => by rw [q j hj]
theorem Ar.bound (A : Ar Z h a ty n f) : n < 2 ^ 31 := by obtain ⟨c, A, S, M, G⟩ := A; exact M
theorem ixo {j : Int32} {i n : Nat} (hj : j.toInt = (i : Int)) (hi : i < n) : ¬ (j < 0 ∨ n ≤ j.toNatClampNeg) ∧ j.toNatClampNeg = i := by
  have e0 : (0 : Int32).toInt = 0 := rfl
  have q : j.toNatClampNeg = i := by rw [Int32.toNatClampNeg, hj]; rfl
  refine ⟨fun z => z.elim (fun u => ?_) fun u => ?_, q⟩
  · rw [Int32.lt_iff_toInt_lt] at u; omega
  · omega
theorem lenI {n : Nat} {z : Int32} (hz : z.toInt = (n : Int)) : n.toInt32 = z := by
  apply Int32.toInt_inj.mp
  have r := rng32 z
  rw [hz]; exact Int32.toInt_ofNat_of_lt (by omega)
theorem Ar.arv (A : Ar Z h a ty n f) : ∃ k, Arv Z h a k ty (Int32.ofNat n) ((List.range n).map f) (f 0) := by
  obtain ⟨c, A, S, M, G⟩ := A
  have e0 : (0 : Int32).toInt = 0 := rfl
  have hz : (Int32.ofNat n).toInt = (n : Int) := Int32.toInt_ofNat_of_lt (by omega)
  have hq : (Int32.ofNat n).toNatClampNeg = n := by rw [Int32.toNatClampNeg, hz]; rfl
  have hg : ∀ i, i < n → ((List.range n).map f).getD i (f 0) = f i := fun i hi => by
    rw [List.getD_eq_getElem?_getD, List.getElem?_map, List.getElem?_range hi]; rfl
  refine ⟨c.cls, c, A, rfl, by rw [hq]; exact S, by rw [Int32.lt_iff_toInt_lt, hz]; omega, fun i hi => ?_, fun i hi => ?_⟩
  · rw [hg i (by omega)]; exact (G i (by omega)).1
  · rw [hg i (by omega)]; exact (G i (by omega)).2
theorem Ar.of_arv {k : ClassId} {z : Int32} {vs : List Value} {d : Value} (A : Arv Z h a k ty z vs d) (hz : z.toInt = (n : Int)) : Ar Z h a ty n (fun j => vs.getD j d) := by
  obtain ⟨c, A, q, S, N, H, G⟩ := A
  have hq : z.toNatClampNeg = n := by rw [Int32.toNatClampNeg, hz]; rfl
  have r := rng32 z
  exact ⟨c, A, by rw [S, hq], by omega, fun j hj => ⟨H j (by omega), G j (by omega)⟩⟩
end Facts
section Steps
variable {p : Program} {l : Launch} {e : Env} {R : Room} {s : State} {m : MethodId} {args : Array Value} {below : List Frame} {meth : Method} {c : Code} {T : State} {locs : List Loc} {cells slots : Nat} {Z : State} {h : Heap} {a : Addr} {n i : Nat} {j : Int32} {rest : List Value} {fr : JFrame} {target : State}
theorem ldI {f : Nat → Int32} {v : Int32} (X : Stand p l e R s m args below meth c T locs cells slots) (hx : p.tables.exec = Jvm.exec) (hZ : Z.Warmed39 s.vm) (eT : T.heap = h) (A : AI Z h a .int n f) (hj : j.toInt = (i : Int)) (hi : i < n) (hv : v = f i) (hg : fr.method = m) (hs : fr.stack = .int j :: .ref a :: rest) (hd : decode c.code fr.pc = .ok (.iaload, 1))
    (hr : Steps p.tables e below (T.setTop { fr with pc := fr.pc + 1, stack := .int v :: rest }) target) : Steps p.tables e below (T.setTop fr) target := by
  obtain ⟨cl, A, S, M, G⟩ := A
  obtain ⟨q1, q2⟩ := ixo hj hi
  exact X.iaload hx (j := j) (v := .int v) (by rw [eT]; exact A.1) (State.isArrayOf_alike hZ.alike A.2.1) A.2.2 (by rw [S]; exact q1) (by rw [q2, hv]; exact (G i hi).1) hg hs hd _ hr
theorem ldB {f : Nat → Int32} {v : Int32} (X : Stand p l e R s m args below meth c T locs cells slots) (hx : p.tables.exec = Jvm.exec) (hZ : Z.Warmed39 s.vm) (eT : T.heap = h) (A : AI Z h a .byte n f) (hj : j.toInt = (i : Int)) (hi : i < n) (hv : v = f i) (hg : fr.method = m) (hs : fr.stack = .int j :: .ref a :: rest) (hd : decode c.code fr.pc = .ok (.baload, 1))
    (hr : Steps p.tables e below (T.setTop { fr with pc := fr.pc + 1, stack := .int v :: rest }) target) : Steps p.tables e below (T.setTop fr) target := by
  obtain ⟨cl, A, S, M, G⟩ := A
  obtain ⟨q1, q2⟩ := ixo hj hi
  exact X.baloadBytes hx (j := j) (v := .int v) (by rw [eT]; exact A.1) (State.isArrayOf_alike hZ.alike A.2.1) A.2.2 (by rw [S]; exact q1) (by rw [q2, hv]; exact (G i hi).1) hg hs hd _ hr
theorem ldJ {f : Nat → Int64} {v : Int64} (X : Stand p l e R s m args below meth c T locs cells slots) (hx : p.tables.exec = Jvm.exec) (hZ : Z.Warmed39 s.vm) (eT : T.heap = h) (A : AJ Z h a n f) (hj : j.toInt = (i : Int)) (hi : i < n) (hv : v = f i) (hg : fr.method = m) (hs : fr.stack = .int j :: .ref a :: rest) (hd : decode c.code fr.pc = .ok (.laload, 1))
    (hr : Steps p.tables e below (T.setTop { fr with pc := fr.pc + 1, stack := .long v :: rest }) target) : Steps p.tables e below (T.setTop fr) target := by
  obtain ⟨cl, A, S, M, G⟩ := A
  obtain ⟨q1, q2⟩ := ixo hj hi
  exact X.laload hx (j := j) (v := .long v) (by rw [eT]; exact A.1) (State.isArrayOf_alike hZ.alike A.2.1) A.2.2 (by rw [S]; exact q1) (by rw [q2, hv]; exact (G i hi).1) hg hs hd _ hr
theorem alen {ty : FieldType} {f : Nat → Value} {z : Int32} (X : Stand p l e R s m args below meth c T locs cells slots) (hx : p.tables.exec = Jvm.exec) (hZ : Z.Warmed39 s.vm) (eT : T.heap = h) (A : Ar Z h a ty n f) (hz : z.toInt = (n : Int)) (hg : fr.method = m) (hs : fr.stack = .ref a :: rest) (hd : decode c.code fr.pc = .ok (.arraylength, 1))
    (hr : Steps p.tables e below (T.setTop { fr with pc := fr.pc + 1, stack := .int z :: rest }) target) : Steps p.tables e below (T.setTop fr) target := by
  obtain ⟨cl, A, S, M, G⟩ := A
  exact X.arraylength hx (by rw [eT]; exact A.1) (State.isArrayOf_alike hZ.alike A.2.1) hg hs hd _ (by rw [S, lenI hz]; exact hr)
theorem stAI {f : Nat → Int32} {x : Int32} (X : Stand p l e R s m args below meth c T locs cells slots) (hx : p.tables.exec = Jvm.exec) (hZ : Z.Warmed39 s.vm) (eT : T.heap = h) (A : AI Z h a .int n f) (hj : j.toInt = (i : Int)) (hi : i < n) (hg : fr.method = m) (hs : fr.stack = .int x :: .int j :: .ref a :: rest) (hd : decode c.code fr.pc = .ok (.iastore, 1)) :
    ∃ T' h', Stand p l e R s m args below meth c T' (locs ++ [⟨a, i⟩]) cells slots ∧ T'.heap = h' ∧ Wr h h' a i (.int x) ∧ AI Z h' a .int n (up f i x) ∧ ∀ target, Steps p.tables e below (T'.setTop { fr with pc := fr.pc + 1, stack := rest }) target → Steps p.tables e below (T.setTop fr) target := by
  have A0 := A
  obtain ⟨cl, A, S, M, G⟩ := A
  obtain ⟨q1, q2⟩ := ixo hj hi
  obtain ⟨T', h', X', e', W', st⟩ := stI X hx hZ eT A (j := j) (by rw [S]; exact q1) hg hs hd
  rw [q2] at X' W'
  exact ⟨T', h', X', e', W', A0.wr W' rfl, st⟩
theorem stAB {f : Nat → Int32} {x : Int32} (X : Stand p l e R s m args below meth c T locs cells slots) (hx : p.tables.exec = Jvm.exec) (hZ : Z.Warmed39 s.vm) (eT : T.heap = h) (A : AI Z h a .byte n f) (hj : j.toInt = (i : Int)) (hi : i < n) (hg : fr.method = m) (hs : fr.stack = .int x :: .int j :: .ref a :: rest) (hd : decode c.code fr.pc = .ok (.bastore, 1)) :
    ∃ T' h', Stand p l e R s m args below meth c T' (locs ++ [⟨a, i⟩]) cells slots ∧ T'.heap = h' ∧ Wr h h' a i (.int x.toInt8.toInt32) ∧ AI Z h' a .byte n (up f i x.toInt8.toInt32) ∧ ∀ target, Steps p.tables e below (T'.setTop { fr with pc := fr.pc + 1, stack := rest }) target → Steps p.tables e below (T.setTop fr) target := by
  have A0 := A
  obtain ⟨cl, A, S, M, G⟩ := A
  obtain ⟨q1, q2⟩ := ixo hj hi
  obtain ⟨T', h', X', e', W', st⟩ := stB X hx hZ eT A (j := j) (by rw [S]; exact q1) hg hs hd
  rw [q2] at X' W'
  exact ⟨T', h', X', e', W', A0.wr W' (fits_nar_byte x), st⟩
theorem stAJ {f : Nat → Int64} {x : Int64} (X : Stand p l e R s m args below meth c T locs cells slots) (hx : p.tables.exec = Jvm.exec) (hZ : Z.Warmed39 s.vm) (eT : T.heap = h) (A : AJ Z h a n f) (hj : j.toInt = (i : Int)) (hi : i < n) (hg : fr.method = m) (hs : fr.stack = .long x :: .int j :: .ref a :: rest) (hd : decode c.code fr.pc = .ok (.lastore, 1)) :
    ∃ T' h', Stand p l e R s m args below meth c T' (locs ++ [⟨a, i⟩]) cells slots ∧ T'.heap = h' ∧ Wr h h' a i (.long x) ∧ AJ Z h' a n (up f i x) ∧ ∀ target, Steps p.tables e below (T'.setTop { fr with pc := fr.pc + 1, stack := rest }) target → Steps p.tables e below (T.setTop fr) target := by
  have A0 := A
  obtain ⟨cl, A, S, M, G⟩ := A
  obtain ⟨q1, q2⟩ := ixo hj hi
  obtain ⟨T', h', X', e', W', st⟩ := stJ X hx hZ eT A (j := j) (by rw [S]; exact q1) hg hs hd
  rw [q2] at X' W'
  exact ⟨T', h', X', e', W', A0.wr W', st⟩
theorem nwA {a0 : Array Value} {aty : ArrayType} {z : Int32} {cap : Nat} (X : Stand p l e R s m args below meth c T locs cells slots) (hx : p.tables.exec = Jvm.exec) (hZ : Z.Warmed39 s.vm) (w : (Cond.arrayClass (newarray.typeOf aty)).before a0 Z = true) (eT : T.heap = h) (hz : z.toInt = (n : Int)) (hcap : n ≤ cap) (hb : cap * 8 ≤ 536870912) (hc : cells + 1 ≤ R.cells) (hl : slots + cap ≤ R.slots) (hg : fr.method = m) (hs : fr.stack = .int z :: rest) (hd : decode c.code fr.pc = .ok (.newarray aty, 2)) :
    ∃ T' h', Stand p l e R s m args below meth c T' locs (cells + 1) (slots + cap) ∧ T'.heap = h' ∧ Ext h h' ∧ Ar Z h' h.size (newarray.typeOf aty) n (fun _ => defaultValue (newarray.typeOf aty)) ∧ ∀ target, Steps p.tables e below (T'.setTop { fr with pc := fr.pc + 2, stack := .ref h.size :: rest }) target → Steps p.tables e below (T.setTop fr) target := by
  have e0 : (0 : Int32).toInt = 0 := rfl
  have q : z.toNatClampNeg = n := by rw [Int32.toNatClampNeg, hz]; rfl
  have qn : ¬ z < 0 := by rw [Int32.lt_iff_toInt_lt]; omega
  have r := rng32 z
  obtain ⟨T', h', cA, X', e', E', A', st⟩ := newP X hx hZ w eT hg hd hs qn (cap := cap) (by omega) hb hc hl
  refine ⟨T', h', X', e', E', ⟨_, A', by rw [sz_new, q], by omega, fun i hi => ⟨?_, by cases aty <;> rfl⟩⟩, st⟩
  simp [newA, q, hi]
/-- System.arraycopy of the first k places -/
theorem cpAr {a0 : Array Value} {own : String} {index : Nat} {b : Addr} {ty : FieldType} {n1 n2 k : Nat} {f1 f2 : Nat → Value} {nn : Int32} {n0 W : Nat} (X : Stand p l e R s m args below meth c T locs cells slots) (hx : p.tables.exec = Jvm.exec) (hZ : Z.Warmed39 s.vm) (hown : s.vm.findClass own = some m.cls)
    (w1 : (Cond.methodLink own index Jvm.Stand.acN).before a0 Z = true) (w2 : (Cond.native Jvm.Stand.acN).before a0 Z = true) (w3 : (Cond.static Jvm.Stand.acN).before a0 Z = true) (w4 : (Cond.initialized "java/lang/System").before a0 Z = true) (eT : T.heap = h)
    (A : Ar Z h a ty n1 f1) (B : Ar Z h b ty n2 f2) (hty : refKind ty = false) (hk : nn.toInt = (k : Int)) (h4 : k ≤ n1) (h5 : k ≤ n2) (N : Fr n0 locs) (ge : n0 ≤ b)
    (hg : fr.method = m) (hsize : fr.locals.size = c.maxLocals) (hs : fr.stack = .int nn :: .int 0 :: .ref b :: .int 0 :: .ref a :: rest) (hd : decode c.code fr.pc = .ok (.invokestatic index, 3))
    (hf : 1 ≤ R.frames) (hW : 2 * fr.monitorRoom + (rest.map fun v => v.category).sum ≤ W) (hlo : W + (nativeFrameWords "java/lang/System" "arraycopy" 5 + 11) ≤ R.locals) :
    ∃ T' h' L, Stand p l e R s m args below meth c T' L cells slots ∧ T'.heap = h' ∧ Fr n0 L ∧ Keep h h' [b] ∧ Ar Z h' b ty n2 (fun j => if j < k then f1 j else f2 j) ∧
      ∀ target, Steps p.tables e below (T'.setTop { fr with pc := fr.pc + 3, stack := rest }) target → Steps p.tables e below (T.setTop fr) target := by
  obtain ⟨ka, A'⟩ := A.arv
  obtain ⟨kb, B'⟩ := B.arv
  have m1 := A.bound
  have m2 := B.bound
  have e0 : (0 : Int32).toInt = 0 := rfl
  have z0 : (0 : Int32).toNatClampNeg = 0 := rfl
  have hkk : nn.toNatClampNeg = k := by rw [Int32.toNatClampNeg, hk]; rfl
  have q1 : (Int32.ofNat n1).toInt = (n1 : Int) := Int32.toInt_ofNat_of_lt (by omega)
  have q2 : (Int32.ofNat n2).toInt = (n2 : Int) := Int32.toInt_ofNat_of_lt (by omega)
  have p1 : (Int32.ofNat n1).toNatClampNeg = n1 := by rw [Int32.toNatClampNeg, q1]; rfl
  have p2 : (Int32.ofNat n2).toNatClampNeg = n2 := by rw [Int32.toNatClampNeg, q2]; rfl
  obtain ⟨T', h', L', X', e', N', K', B2, st⟩ := cpA X hx hZ hown w1 w2 w3 w4 eT A' B' (Or.inl ⟨rfl, hty⟩) (sp := 0) (dp := 0) (nn := nn) (by decide) (by decide) (by rw [Int32.lt_iff_toInt_lt]; omega) (by rw [z0, hkk, p1]; omega) (by rw [z0, hkk, p2]; omega) rfl (by rw [z0, hkk, List.length_map, List.length_range]; omega) N ge hg hsize hs hd hf hW hlo
  refine ⟨T', h', L', X', e', N', K', (Ar.of_arv B2 q2).congr fun j hj => ?_, st⟩
  simp only [z0, hkk, List.take_zero, List.nil_append, Nat.zero_add, List.getD_eq_getElem?_getD]
  by_cases c1 : j < k
  · rw [if_pos c1, List.getElem?_append_left (by simpa using c1)]
    simp [c1, show j < n1 by omega]
  · rw [if_neg c1, List.getElem?_append_right (by simpa using c1)]
    simp [show k + (j - k) = j by omega, hj]
end Steps
end Jvm.Pilot.@@N@@.OwnKit
namespace Jvm.Pilot.@@N@@
open Jvm Jvm.ClassFile Sem Op Lib Jvm.Free Jvm.Stand Jvm.LawKit Jvm.RoadKit Bundle Jvm.Pilot.@@N@@.Jvm.D Jvm.Pilot.@@N@@.OwnKit
theorem d1_0 : decode prog_16_method_5_code 0 = .ok (.iconst 0, 1) := by decide +kernel
theorem d1_1 : decode prog_16_method_5_code 1 = .ok (.istore_n 1, 1) := by decide +kernel
theorem d1_2 : decode prog_16_method_5_code 2 = .ok (.aload_n 0, 1) := by decide +kernel
theorem d1_3 : decode prog_16_method_5_code 3 = .ok (.astore_n 2, 1) := by decide +kernel
theorem d1_4 : decode prog_16_method_5_code 4 = .ok (.aload_n 2, 1) := by decide +kernel
theorem d1_5 : decode prog_16_method_5_code 5 = .ok (.arraylength, 1) := by decide +kernel
theorem d1_6 : decode prog_16_method_5_code 6 = .ok (.istore_n 3, 1) := by decide +kernel
theorem d1_7 : decode prog_16_method_5_code 7 = .ok (.iconst 0, 1) := by decide +kernel
theorem d1_8 : decode prog_16_method_5_code 8 = .ok (.istore 4, 2) := by decide +kernel
theorem d1_10 : decode prog_16_method_5_code 10 = .ok (.iload 4, 2) := by decide +kernel
theorem d1_12 : decode prog_16_method_5_code 12 = .ok (.iload_n 3, 1) := by decide +kernel
theorem d1_13 : decode prog_16_method_5_code 13 = .ok (.if_icmp .ge 27, 3) := by decide +kernel
theorem d1_40 : decode prog_16_method_5_code 40 = .ok (.iload_n 1, 1) := by decide +kernel
theorem d1_41 : decode prog_16_method_5_code 41 = .ok (.ireturn, 1) := by decide +kernel
theorem pn_0 : plainName "castkey/card/ModeObjects" = true := by first | (simp [plainName, overriddenIn]; done) | decide +kernel
theorem ef1n0 (m : MethodId) (oa : Addr) : entryFrame m #[(.ref oa)] 6 = mkF m 0 #[.val (.ref oa), .unset, .unset, .unset, .unset, .unset] [] := by first | (simp [entryFrame, mkF, argsToLocals, Value.category]; done) | rfl
def Q1n0 (Z : State) (oa : Addr) (pg : Nat → Int32) (h0 : Heap) (n0 : Nat) (v : Option Value) (h : Heap) (L : List Loc) : Prop := v = some (.int (0 : Int32)) ∧ Fr n0 L ∧ h = h0
set_option maxRecDepth 65536 in
set_option maxHeartbeats 40000000 in
theorem rm1n0 (l : Launch) (Z : State) (a0 : Array Value) (hw : ∀ d ∈ tables_1, d.before a0 Z = true) (ws : List Jvm.Cond) (oa : Addr) (pg : Nat → Int32) (h0 : Heap) (n0 : Nat) (Z0 : n0 ≤ h0.size) (A_oa : AI Z h0 oa .byte 0 pg) :
    MetFree l (⟨"castkey/card/ModeObjects", "number", "([B)I"⟩ : MethodName) (head1 (Jvm.Cond.code (⟨"castkey/card/ModeObjects", "number", "([B)I"⟩ : MethodName) prog_16_method_5_code 6 (some .int) :: ws) ({ frames := 0, cells := 0, slots := 0, locals := 0 } : Room)) (fun a U => a = #[(.ref oa)] ∧ Z.Warmed39 U.vm ∧ U.heap = h0) (fun _ _ _ _ _ => True) (fun _ U o U' => ∃ v L, o = .returned v ∧ Q1n0 Z oa pg h0 n0 v U'.heap L ∧ FrameEnd U o U' L ({ frames := 0, cells := 0, slots := 0, locals := 0 } : Room).cells ({ frames := 0, cells := 0, slots := 0, locals := 0 } : Room).slots) := by
  refine MetFree.of_bodySF (plainFor_of_name pn_0) hisR ?_
  intro p e s m args below meth c s₁ Bd hml0 hP hK
  obtain ⟨rfl, hZ, hh⟩ := hP
  have hx := Bd.exec
  have hby := Bd.bytes
  have hml : c.maxLocals = 6 := hml0
  have hown : s.vm.findClass "castkey/card/ModeObjects" = some m.cls := findClass_of_methodNamed Bd.named
  have hnm := (name_of_methodNamed Bd.named Bd.method).1
  have X0 : Stand p l e ({ frames := 0, cells := 0, slots := 0, locals := 0 } : Room) s m #[(.ref oa)] below meth c s₁ [] 0 0 := Stand.of_body Bd
  have e0 : s₁.heap = h0 := by rw [← hh, Bd.state]; rfl
  have N0 := Fr.nil n0
  refine Goes.by (fun _ k => castTop (ef1n0 m oa) k) ?_
  show Goes p.tables e below (s₁.setTop (mkF m 0 #[.val (.ref oa), .unset, .unset, .unset, .unset, .unset] [])) _
  refine Goes.by (fun _ k => XS.iconst X0.here hx rfl (hb hby d1_0) k) ?_
  show Goes p.tables e below (s₁.setTop (mkF m 1 #[.val (.ref oa), .unset, .unset, .unset, .unset, .unset] [(.int (0 : Int32))])) _
  refine Goes.by (fun _ k => XS.istoreN X0.here hx rfl (hb hby d1_1) rfl (l' := #[.val (.ref oa), .val (.int (0 : Int32)), .unset, .unset, .unset, .unset]) rfl k) ?_
  show Goes p.tables e below (s₁.setTop (mkF m 2 #[.val (.ref oa), .val (.int (0 : Int32)), .unset, .unset, .unset, .unset] [])) _
  refine Goes.by (fun _ k => XS.aloadN X0.here hx rfl (hb hby d1_2) rfl rfl k) ?_
  show Goes p.tables e below (s₁.setTop (mkF m 3 #[.val (.ref oa), .val (.int (0 : Int32)), .unset, .unset, .unset, .unset] [(.ref oa)])) _
  refine Goes.by (fun _ k => XS.astoreN X0.here hx rfl (hb hby d1_3) rfl rfl (l' := #[.val (.ref oa), .val (.int (0 : Int32)), .val (.ref oa), .unset, .unset, .unset]) rfl k) ?_
  show Goes p.tables e below (s₁.setTop (mkF m 4 #[.val (.ref oa), .val (.int (0 : Int32)), .val (.ref oa), .unset, .unset, .unset] [])) _
  refine Goes.by (fun _ k => XS.aloadN X0.here hx rfl (hb hby d1_4) rfl rfl k) ?_
  show Goes p.tables e below (s₁.setTop (mkF m 5 #[.val (.ref oa), .val (.int (0 : Int32)), .val (.ref oa), .unset, .unset, .unset] [(.ref oa)])) _
  refine Goes.by (fun _ k => alen (z := (0 : Int32)) (fr := (mkF m 5 #[.val (.ref oa), .val (.int (0 : Int32)), .val (.ref oa), .unset, .unset, .unset] [(.ref oa)])) X0 hx hZ e0 A_oa (by decide) rfl rfl (hb hby d1_5) k) ?_
  show Goes p.tables e below (s₁.setTop (mkF m 6 #[.val (.ref oa), .val (.int (0 : Int32)), .val (.ref oa), .unset, .unset, .unset] [(.int (0 : Int32))])) _
  refine Goes.by (fun _ k => XS.istoreN X0.here hx rfl (hb hby d1_6) rfl (l' := #[.val (.ref oa), .val (.int (0 : Int32)), .val (.ref oa), .val (.int (0 : Int32)), .unset, .unset]) rfl k) ?_
  show Goes p.tables e below (s₁.setTop (mkF m 7 #[.val (.ref oa), .val (.int (0 : Int32)), .val (.ref oa), .val (.int (0 : Int32)), .unset, .unset] [])) _
  refine Goes.by (fun _ k => XS.iconst X0.here hx rfl (hb hby d1_7) k) ?_
  show Goes p.tables e below (s₁.setTop (mkF m 8 #[.val (.ref oa), .val (.int (0 : Int32)), .val (.ref oa), .val (.int (0 : Int32)), .unset, .unset] [(.int (0 : Int32))])) _
  refine Goes.by (fun _ k => XS.istore X0.here hx rfl (hb hby d1_8) rfl (l' := #[.val (.ref oa), .val (.int (0 : Int32)), .val (.ref oa), .val (.int (0 : Int32)), .val (.int (0 : Int32)), .unset]) rfl k) ?_
  show Goes p.tables e below (s₁.setTop (mkF m 10 #[.val (.ref oa), .val (.int (0 : Int32)), .val (.ref oa), .val (.int (0 : Int32)), .val (.int (0 : Int32)), .unset] [])) _
  refine Goes.by (fun _ k => XS.iload X0.here hx rfl (hb hby d1_10) rfl k) ?_
  show Goes p.tables e below (s₁.setTop (mkF m 12 #[.val (.ref oa), .val (.int (0 : Int32)), .val (.ref oa), .val (.int (0 : Int32)), .val (.int (0 : Int32)), .unset] [(.int (0 : Int32))])) _
  refine Goes.by (fun _ k => XS.iloadN X0.here hx rfl (hb hby d1_12) rfl k) ?_
  show Goes p.tables e below (s₁.setTop (mkF m 13 #[.val (.ref oa), .val (.int (0 : Int32)), .val (.ref oa), .val (.int (0 : Int32)), .val (.int (0 : Int32)), .unset] [(.int (0 : Int32)), (.int (0 : Int32))])) _
  refine Goes.by (fun _ k => XS.icmpYes X0.here hx rfl (pc0 := 13) (pc' := 40) rfl (hb hby d1_13) rfl (flt (by decide : ¬ ((0 : Int32) < (0 : Int32)))).2.1 (by decide) (by decide) k) ?_
  show Goes p.tables e below (s₁.setTop (mkF m 40 #[.val (.ref oa), .val (.int (0 : Int32)), .val (.ref oa), .val (.int (0 : Int32)), .val (.int (0 : Int32)), .unset] [])) _
  refine Goes.by (fun _ k => XS.iloadN X0.here hx rfl (hb hby d1_40) rfl k) ?_
  show Goes p.tables e below (s₁.setTop (mkF m 41 #[.val (.ref oa), .val (.int (0 : Int32)), .val (.ref oa), .val (.int (0 : Int32)), .val (.int (0 : Int32)), .unset] [(.int (0 : Int32))])) _
  obtain ⟨fs, hr, hrun, hended, hW, hsame⟩ := X0.leave (v := some (.int (0 : Int32))) (fun h => by rw [Bd.returns] at h; cases h)
  refine ⟨_, _, retI X0 hx Bd.returns (hb hby d1_41) hr, hrun, hended, _, _, rfl, ?_, ⟨_, rfl⟩, hW, hsame.mono (by decide) (by decide)⟩
  show Q1n0 Z oa pg h0 n0 _ s₁.heap _
  rw [e0]
  exact ⟨rfl, N0, rfl⟩
theorem d1_16 : decode prog_16_method_5_code 16 = .ok (.aload_n 2, 1) := by decide +kernel
theorem d1_17 : decode prog_16_method_5_code 17 = .ok (.iload 4, 2) := by decide +kernel
theorem d1_19 : decode prog_16_method_5_code 19 = .ok (.baload, 1) := by decide +kernel
theorem d1_20 : decode prog_16_method_5_code 20 = .ok (.istore 5, 2) := by decide +kernel
theorem d1_22 : decode prog_16_method_5_code 22 = .ok (.iload_n 1, 1) := by decide +kernel
theorem d1_23 : decode prog_16_method_5_code 23 = .ok (.bipush 8, 2) := by decide +kernel
theorem d1_25 : decode prog_16_method_5_code 25 = .ok (.ishl, 1) := by decide +kernel
theorem d1_26 : decode prog_16_method_5_code 26 = .ok (.iload 5, 2) := by decide +kernel
theorem d1_28 : decode prog_16_method_5_code 28 = .ok (.sipush 255, 3) := by decide +kernel
theorem d1_31 : decode prog_16_method_5_code 31 = .ok (.iand, 1) := by decide +kernel
theorem d1_32 : decode prog_16_method_5_code 32 = .ok (.ior, 1) := by decide +kernel
theorem d1_33 : decode prog_16_method_5_code 33 = .ok (.istore_n 1, 1) := by decide +kernel
theorem d1_34 : decode prog_16_method_5_code 34 = .ok (.iinc 4 1, 3) := by decide +kernel
theorem d1_37 : decode prog_16_method_5_code 37 = .ok (.goto (-27), 3) := by decide +kernel
theorem ef1n1 (m : MethodId) (oa : Addr) : entryFrame m #[(.ref oa)] 6 = mkF m 0 #[.val (.ref oa), .unset, .unset, .unset, .unset, .unset] [] := by first | (simp [entryFrame, mkF, argsToLocals, Value.category]; done) | rfl
def Q1n1 (Z : State) (oa : Addr) (pg : Nat → Int32) (h0 : Heap) (n0 : Nat) (v : Option Value) (h : Heap) (L : List Loc) : Prop := v = some (.int (((0 : Int32) <<< ((8 : Int32) &&& 31)) ||| ((pg 0) &&& (255 : Int32)))) ∧ Fr n0 L ∧ h = h0
set_option maxRecDepth 65536 in
set_option maxHeartbeats 40000000 in
theorem rm1n1 (l : Launch) (Z : State) (a0 : Array Value) (hw : ∀ d ∈ tables_1, d.before a0 Z = true) (ws : List Jvm.Cond) (oa : Addr) (pg : Nat → Int32) (h0 : Heap) (n0 : Nat) (Z0 : n0 ≤ h0.size) (A_oa : AI Z h0 oa .byte 1 pg) :
    MetFree l (⟨"castkey/card/ModeObjects", "number", "([B)I"⟩ : MethodName) (head1 (Jvm.Cond.code (⟨"castkey/card/ModeObjects", "number", "([B)I"⟩ : MethodName) prog_16_method_5_code 6 (some .int) :: ws) ({ frames := 0, cells := 0, slots := 0, locals := 0 } : Room)) (fun a U => a = #[(.ref oa)] ∧ Z.Warmed39 U.vm ∧ U.heap = h0) (fun _ _ _ _ _ => True) (fun _ U o U' => ∃ v L, o = .returned v ∧ Q1n1 Z oa pg h0 n0 v U'.heap L ∧ FrameEnd U o U' L ({ frames := 0, cells := 0, slots := 0, locals := 0 } : Room).cells ({ frames := 0, cells := 0, slots := 0, locals := 0 } : Room).slots) := by
  refine MetFree.of_bodySF (plainFor_of_name pn_0) hisR ?_
  intro p e s m args below meth c s₁ Bd hml0 hP hK
  obtain ⟨rfl, hZ, hh⟩ := hP
  have hx := Bd.exec
  have hby := Bd.bytes
  have hml : c.maxLocals = 6 := hml0
  have hown : s.vm.findClass "castkey/card/ModeObjects" = some m.cls := findClass_of_methodNamed Bd.named
  have hnm := (name_of_methodNamed Bd.named Bd.method).1
  have X0 : Stand p l e ({ frames := 0, cells := 0, slots := 0, locals := 0 } : Room) s m #[(.ref oa)] below meth c s₁ [] 0 0 := Stand.of_body Bd
  have e0 : s₁.heap = h0 := by rw [← hh, Bd.state]; rfl
  have N0 := Fr.nil n0
  refine Goes.by (fun _ k => castTop (ef1n1 m oa) k) ?_
  show Goes p.tables e below (s₁.setTop (mkF m 0 #[.val (.ref oa), .unset, .unset, .unset, .unset, .unset] [])) _
  refine Goes.by (fun _ k => XS.iconst X0.here hx rfl (hb hby d1_0) k) ?_
  show Goes p.tables e below (s₁.setTop (mkF m 1 #[.val (.ref oa), .unset, .unset, .unset, .unset, .unset] [(.int (0 : Int32))])) _
  refine Goes.by (fun _ k => XS.istoreN X0.here hx rfl (hb hby d1_1) rfl (l' := #[.val (.ref oa), .val (.int (0 : Int32)), .unset, .unset, .unset, .unset]) rfl k) ?_
  show Goes p.tables e below (s₁.setTop (mkF m 2 #[.val (.ref oa), .val (.int (0 : Int32)), .unset, .unset, .unset, .unset] [])) _
  refine Goes.by (fun _ k => XS.aloadN X0.here hx rfl (hb hby d1_2) rfl rfl k) ?_
  show Goes p.tables e below (s₁.setTop (mkF m 3 #[.val (.ref oa), .val (.int (0 : Int32)), .unset, .unset, .unset, .unset] [(.ref oa)])) _
  refine Goes.by (fun _ k => XS.astoreN X0.here hx rfl (hb hby d1_3) rfl rfl (l' := #[.val (.ref oa), .val (.int (0 : Int32)), .val (.ref oa), .unset, .unset, .unset]) rfl k) ?_
  show Goes p.tables e below (s₁.setTop (mkF m 4 #[.val (.ref oa), .val (.int (0 : Int32)), .val (.ref oa), .unset, .unset, .unset] [])) _
  refine Goes.by (fun _ k => XS.aloadN X0.here hx rfl (hb hby d1_4) rfl rfl k) ?_
  show Goes p.tables e below (s₁.setTop (mkF m 5 #[.val (.ref oa), .val (.int (0 : Int32)), .val (.ref oa), .unset, .unset, .unset] [(.ref oa)])) _
  refine Goes.by (fun _ k => alen (z := (1 : Int32)) (fr := (mkF m 5 #[.val (.ref oa), .val (.int (0 : Int32)), .val (.ref oa), .unset, .unset, .unset] [(.ref oa)])) X0 hx hZ e0 A_oa (by decide) rfl rfl (hb hby d1_5) k) ?_
  show Goes p.tables e below (s₁.setTop (mkF m 6 #[.val (.ref oa), .val (.int (0 : Int32)), .val (.ref oa), .unset, .unset, .unset] [(.int (1 : Int32))])) _
  refine Goes.by (fun _ k => XS.istoreN X0.here hx rfl (hb hby d1_6) rfl (l' := #[.val (.ref oa), .val (.int (0 : Int32)), .val (.ref oa), .val (.int (1 : Int32)), .unset, .unset]) rfl k) ?_
  show Goes p.tables e below (s₁.setTop (mkF m 7 #[.val (.ref oa), .val (.int (0 : Int32)), .val (.ref oa), .val (.int (1 : Int32)), .unset, .unset] [])) _
  refine Goes.by (fun _ k => XS.iconst X0.here hx rfl (hb hby d1_7) k) ?_
  show Goes p.tables e below (s₁.setTop (mkF m 8 #[.val (.ref oa), .val (.int (0 : Int32)), .val (.ref oa), .val (.int (1 : Int32)), .unset, .unset] [(.int (0 : Int32))])) _
  refine Goes.by (fun _ k => XS.istore X0.here hx rfl (hb hby d1_8) rfl (l' := #[.val (.ref oa), .val (.int (0 : Int32)), .val (.ref oa), .val (.int (1 : Int32)), .val (.int (0 : Int32)), .unset]) rfl k) ?_
  show Goes p.tables e below (s₁.setTop (mkF m 10 #[.val (.ref oa), .val (.int (0 : Int32)), .val (.ref oa), .val (.int (1 : Int32)), .val (.int (0 : Int32)), .unset] [])) _
  refine Goes.by (fun _ k => XS.iload X0.here hx rfl (hb hby d1_10) rfl k) ?_
  show Goes p.tables e below (s₁.setTop (mkF m 12 #[.val (.ref oa), .val (.int (0 : Int32)), .val (.ref oa), .val (.int (1 : Int32)), .val (.int (0 : Int32)), .unset] [(.int (0 : Int32))])) _
  refine Goes.by (fun _ k => XS.iloadN X0.here hx rfl (hb hby d1_12) rfl k) ?_
  show Goes p.tables e below (s₁.setTop (mkF m 13 #[.val (.ref oa), .val (.int (0 : Int32)), .val (.ref oa), .val (.int (1 : Int32)), .val (.int (0 : Int32)), .unset] [(.int (1 : Int32)), (.int (0 : Int32))])) _
  refine Goes.by (fun _ k => XS.icmpNo X0.here hx rfl (hb hby d1_13) rfl (tlt (by decide : (0 : Int32) < (1 : Int32))).2.1 k) ?_
  show Goes p.tables e below (s₁.setTop (mkF m 16 #[.val (.ref oa), .val (.int (0 : Int32)), .val (.ref oa), .val (.int (1 : Int32)), .val (.int (0 : Int32)), .unset] [])) _
  refine Goes.by (fun _ k => XS.aloadN X0.here hx rfl (hb hby d1_16) rfl rfl k) ?_
  show Goes p.tables e below (s₁.setTop (mkF m 17 #[.val (.ref oa), .val (.int (0 : Int32)), .val (.ref oa), .val (.int (1 : Int32)), .val (.int (0 : Int32)), .unset] [(.ref oa)])) _
  refine Goes.by (fun _ k => XS.iload X0.here hx rfl (hb hby d1_17) rfl k) ?_
  show Goes p.tables e below (s₁.setTop (mkF m 19 #[.val (.ref oa), .val (.int (0 : Int32)), .val (.ref oa), .val (.int (1 : Int32)), .val (.int (0 : Int32)), .unset] [(.int (0 : Int32)), (.ref oa)])) _
  refine Goes.by (fun _ k => ldB (v := (pg 0)) (fr := (mkF m 19 #[.val (.ref oa), .val (.int (0 : Int32)), .val (.ref oa), .val (.int (1 : Int32)), .val (.int (0 : Int32)), .unset] [(.int (0 : Int32)), (.ref oa)])) X0 hx hZ e0 A_oa (i := 0) (by decide) (by decide) rfl rfl rfl (hb hby d1_19) k) ?_
  show Goes p.tables e below (s₁.setTop (mkF m 20 #[.val (.ref oa), .val (.int (0 : Int32)), .val (.ref oa), .val (.int (1 : Int32)), .val (.int (0 : Int32)), .unset] [(.int (pg 0))])) _
  refine Goes.by (fun _ k => XS.istore X0.here hx rfl (hb hby d1_20) rfl (l' := #[.val (.ref oa), .val (.int (0 : Int32)), .val (.ref oa), .val (.int (1 : Int32)), .val (.int (0 : Int32)), .val (.int (pg 0))]) rfl k) ?_
  show Goes p.tables e below (s₁.setTop (mkF m 22 #[.val (.ref oa), .val (.int (0 : Int32)), .val (.ref oa), .val (.int (1 : Int32)), .val (.int (0 : Int32)), .val (.int (pg 0))] [])) _
  refine Goes.by (fun _ k => XS.iloadN X0.here hx rfl (hb hby d1_22) rfl k) ?_
  show Goes p.tables e below (s₁.setTop (mkF m 23 #[.val (.ref oa), .val (.int (0 : Int32)), .val (.ref oa), .val (.int (1 : Int32)), .val (.int (0 : Int32)), .val (.int (pg 0))] [(.int (0 : Int32))])) _
  refine Goes.by (fun _ k => XS.bipush X0.here hx rfl (hb hby d1_23) k) ?_
  show Goes p.tables e below (s₁.setTop (mkF m 25 #[.val (.ref oa), .val (.int (0 : Int32)), .val (.ref oa), .val (.int (1 : Int32)), .val (.int (0 : Int32)), .val (.int (pg 0))] [(.int (8 : Int32)), (.int (0 : Int32))])) _
  refine Goes.by (fun _ k => XS.ishl X0.here hx rfl (hb hby d1_25) rfl k) ?_
  show Goes p.tables e below (s₁.setTop (mkF m 26 #[.val (.ref oa), .val (.int (0 : Int32)), .val (.ref oa), .val (.int (1 : Int32)), .val (.int (0 : Int32)), .val (.int (pg 0))] [(.int ((0 : Int32) <<< ((8 : Int32) &&& 31)))])) _
  refine Goes.by (fun _ k => XS.iload X0.here hx rfl (hb hby d1_26) rfl k) ?_
  show Goes p.tables e below (s₁.setTop (mkF m 28 #[.val (.ref oa), .val (.int (0 : Int32)), .val (.ref oa), .val (.int (1 : Int32)), .val (.int (0 : Int32)), .val (.int (pg 0))] [(.int (pg 0)), (.int ((0 : Int32) <<< ((8 : Int32) &&& 31)))])) _
  refine Goes.by (fun _ k => XS.sipush X0.here hx rfl (hb hby d1_28) k) ?_
  show Goes p.tables e below (s₁.setTop (mkF m 31 #[.val (.ref oa), .val (.int (0 : Int32)), .val (.ref oa), .val (.int (1 : Int32)), .val (.int (0 : Int32)), .val (.int (pg 0))] [(.int (255 : Int32)), (.int (pg 0)), (.int ((0 : Int32) <<< ((8 : Int32) &&& 31)))])) _
  refine Goes.by (fun _ k => XS.iand X0.here hx rfl (hb hby d1_31) rfl k) ?_
  show Goes p.tables e below (s₁.setTop (mkF m 32 #[.val (.ref oa), .val (.int (0 : Int32)), .val (.ref oa), .val (.int (1 : Int32)), .val (.int (0 : Int32)), .val (.int (pg 0))] [(.int ((pg 0) &&& (255 : Int32))), (.int ((0 : Int32) <<< ((8 : Int32) &&& 31)))])) _
  refine Goes.by (fun _ k => XS.ior X0.here hx rfl (hb hby d1_32) rfl k) ?_
  show Goes p.tables e below (s₁.setTop (mkF m 33 #[.val (.ref oa), .val (.int (0 : Int32)), .val (.ref oa), .val (.int (1 : Int32)), .val (.int (0 : Int32)), .val (.int (pg 0))] [(.int (((0 : Int32) <<< ((8 : Int32) &&& 31)) ||| ((pg 0) &&& (255 : Int32))))])) _
  refine Goes.by (fun _ k => XS.istoreN X0.here hx rfl (hb hby d1_33) rfl (l' := #[.val (.ref oa), .val (.int (((0 : Int32) <<< ((8 : Int32) &&& 31)) ||| ((pg 0) &&& (255 : Int32)))), .val (.ref oa), .val (.int (1 : Int32)), .val (.int (0 : Int32)), .val (.int (pg 0))]) rfl k) ?_
  show Goes p.tables e below (s₁.setTop (mkF m 34 #[.val (.ref oa), .val (.int (((0 : Int32) <<< ((8 : Int32) &&& 31)) ||| ((pg 0) &&& (255 : Int32)))), .val (.ref oa), .val (.int (1 : Int32)), .val (.int (0 : Int32)), .val (.int (pg 0))] [])) _
  refine Goes.by (fun _ k => XS.iinc X0.here hx rfl (hb hby d1_34) rfl (l' := #[.val (.ref oa), .val (.int (((0 : Int32) <<< ((8 : Int32) &&& 31)) ||| ((pg 0) &&& (255 : Int32)))), .val (.ref oa), .val (.int (1 : Int32)), .val (.int (1 : Int32)), .val (.int (pg 0))]) rfl k) ?_
  show Goes p.tables e below (s₁.setTop (mkF m 37 #[.val (.ref oa), .val (.int (((0 : Int32) <<< ((8 : Int32) &&& 31)) ||| ((pg 0) &&& (255 : Int32)))), .val (.ref oa), .val (.int (1 : Int32)), .val (.int (1 : Int32)), .val (.int (pg 0))] [])) _
  refine Goes.by (fun _ k => XS.goto X0.here hx rfl (pc0 := 37) (pc' := 10) rfl (hb hby d1_37) (by decide) (by decide) k) ?_
  show Goes p.tables e below (s₁.setTop (mkF m 10 #[.val (.ref oa), .val (.int (((0 : Int32) <<< ((8 : Int32) &&& 31)) ||| ((pg 0) &&& (255 : Int32)))), .val (.ref oa), .val (.int (1 : Int32)), .val (.int (1 : Int32)), .val (.int (pg 0))] [])) _
  refine Goes.by (fun _ k => XS.iload X0.here hx rfl (hb hby d1_10) rfl k) ?_
  show Goes p.tables e below (s₁.setTop (mkF m 12 #[.val (.ref oa), .val (.int (((0 : Int32) <<< ((8 : Int32) &&& 31)) ||| ((pg 0) &&& (255 : Int32)))), .val (.ref oa), .val (.int (1 : Int32)), .val (.int (1 : Int32)), .val (.int (pg 0))] [(.int (1 : Int32))])) _
  refine Goes.by (fun _ k => XS.iloadN X0.here hx rfl (hb hby d1_12) rfl k) ?_
  show Goes p.tables e below (s₁.setTop (mkF m 13 #[.val (.ref oa), .val (.int (((0 : Int32) <<< ((8 : Int32) &&& 31)) ||| ((pg 0) &&& (255 : Int32)))), .val (.ref oa), .val (.int (1 : Int32)), .val (.int (1 : Int32)), .val (.int (pg 0))] [(.int (1 : Int32)), (.int (1 : Int32))])) _
  refine Goes.by (fun _ k => XS.icmpYes X0.here hx rfl (pc0 := 13) (pc' := 40) rfl (hb hby d1_13) rfl (flt (by decide : ¬ ((1 : Int32) < (1 : Int32)))).2.1 (by decide) (by decide) k) ?_
  show Goes p.tables e below (s₁.setTop (mkF m 40 #[.val (.ref oa), .val (.int (((0 : Int32) <<< ((8 : Int32) &&& 31)) ||| ((pg 0) &&& (255 : Int32)))), .val (.ref oa), .val (.int (1 : Int32)), .val (.int (1 : Int32)), .val (.int (pg 0))] [])) _
  refine Goes.by (fun _ k => XS.iloadN X0.here hx rfl (hb hby d1_40) rfl k) ?_
  show Goes p.tables e below (s₁.setTop (mkF m 41 #[.val (.ref oa), .val (.int (((0 : Int32) <<< ((8 : Int32) &&& 31)) ||| ((pg 0) &&& (255 : Int32)))), .val (.ref oa), .val (.int (1 : Int32)), .val (.int (1 : Int32)), .val (.int (pg 0))] [(.int (((0 : Int32) <<< ((8 : Int32) &&& 31)) ||| ((pg 0) &&& (255 : Int32))))])) _
  obtain ⟨fs, hr, hrun, hended, hW, hsame⟩ := X0.leave (v := some (.int (((0 : Int32) <<< ((8 : Int32) &&& 31)) ||| ((pg 0) &&& (255 : Int32))))) (fun h => by rw [Bd.returns] at h; cases h)
  refine ⟨_, _, retI X0 hx Bd.returns (hb hby d1_41) hr, hrun, hended, _, _, rfl, ?_, ⟨_, rfl⟩, hW, hsame.mono (by decide) (by decide)⟩
  show Q1n1 Z oa pg h0 n0 _ s₁.heap _
  rw [e0]
  exact ⟨rfl, N0, rfl⟩
theorem ef1n2 (m : MethodId) (oa : Addr) : entryFrame m #[(.ref oa)] 6 = mkF m 0 #[.val (.ref oa), .unset, .unset, .unset, .unset, .unset] [] := by first | (simp [entryFrame, mkF, argsToLocals, Value.category]; done) | rfl
def Q1n2 (Z : State) (oa : Addr) (pg : Nat → Int32) (h0 : Heap) (n0 : Nat) (v : Option Value) (h : Heap) (L : List Loc) : Prop := v = some (.int (((((0 : Int32) <<< ((8 : Int32) &&& 31)) ||| ((pg 0) &&& (255 : Int32))) <<< ((8 : Int32) &&& 31)) ||| ((pg 1) &&& (255 : Int32)))) ∧ Fr n0 L ∧ h = h0
set_option maxRecDepth 65536 in
set_option maxHeartbeats 40000000 in
theorem rm1n2 (l : Launch) (Z : State) (a0 : Array Value) (hw : ∀ d ∈ tables_1, d.before a0 Z = true) (ws : List Jvm.Cond) (oa : Addr) (pg : Nat → Int32) (h0 : Heap) (n0 : Nat) (Z0 : n0 ≤ h0.size) (A_oa : AI Z h0 oa .byte 2 pg) :
    MetFree l (⟨"castkey/card/ModeObjects", "number", "([B)I"⟩ : MethodName) (head1 (Jvm.Cond.code (⟨"castkey/card/ModeObjects", "number", "([B)I"⟩ : MethodName) prog_16_method_5_code 6 (some .int) :: ws) ({ frames := 0, cells := 0, slots := 0, locals := 0 } : Room)) (fun a U => a = #[(.ref oa)] ∧ Z.Warmed39 U.vm ∧ U.heap = h0) (fun _ _ _ _ _ => True) (fun _ U o U' => ∃ v L, o = .returned v ∧ Q1n2 Z oa pg h0 n0 v U'.heap L ∧ FrameEnd U o U' L ({ frames := 0, cells := 0, slots := 0, locals := 0 } : Room).cells ({ frames := 0, cells := 0, slots := 0, locals := 0 } : Room).slots) := by
  refine MetFree.of_bodySF (plainFor_of_name pn_0) hisR ?_
  intro p e s m args below meth c s₁ Bd hml0 hP hK
  obtain ⟨rfl, hZ, hh⟩ := hP
  have hx := Bd.exec
  have hby := Bd.bytes
  have hml : c.maxLocals = 6 := hml0
  have hown : s.vm.findClass "castkey/card/ModeObjects" = some m.cls := findClass_of_methodNamed Bd.named
  have hnm := (name_of_methodNamed Bd.named Bd.method).1
  have X0 : Stand p l e ({ frames := 0, cells := 0, slots := 0, locals := 0 } : Room) s m #[(.ref oa)] below meth c s₁ [] 0 0 := Stand.of_body Bd
  have e0 : s₁.heap = h0 := by rw [← hh, Bd.state]; rfl
  have N0 := Fr.nil n0
  refine Goes.by (fun _ k => castTop (ef1n2 m oa) k) ?_
  show Goes p.tables e below (s₁.setTop (mkF m 0 #[.val (.ref oa), .unset, .unset, .unset, .unset, .unset] [])) _
  refine Goes.by (fun _ k => XS.iconst X0.here hx rfl (hb hby d1_0) k) ?_
  show Goes p.tables e below (s₁.setTop (mkF m 1 #[.val (.ref oa), .unset, .unset, .unset, .unset, .unset] [(.int (0 : Int32))])) _
  refine Goes.by (fun _ k => XS.istoreN X0.here hx rfl (hb hby d1_1) rfl (l' := #[.val (.ref oa), .val (.int (0 : Int32)), .unset, .unset, .unset, .unset]) rfl k) ?_
  show Goes p.tables e below (s₁.setTop (mkF m 2 #[.val (.ref oa), .val (.int (0 : Int32)), .unset, .unset, .unset, .unset] [])) _
  refine Goes.by (fun _ k => XS.aloadN X0.here hx rfl (hb hby d1_2) rfl rfl k) ?_
  show Goes p.tables e below (s₁.setTop (mkF m 3 #[.val (.ref oa), .val (.int (0 : Int32)), .unset, .unset, .unset, .unset] [(.ref oa)])) _
  refine Goes.by (fun _ k => XS.astoreN X0.here hx rfl (hb hby d1_3) rfl rfl (l' := #[.val (.ref oa), .val (.int (0 : Int32)), .val (.ref oa), .unset, .unset, .unset]) rfl k) ?_
  show Goes p.tables e below (s₁.setTop (mkF m 4 #[.val (.ref oa), .val (.int (0 : Int32)), .val (.ref oa), .unset, .unset, .unset] [])) _
  refine Goes.by (fun _ k => XS.aloadN X0.here hx rfl (hb hby d1_4) rfl rfl k) ?_
  show Goes p.tables e below (s₁.setTop (mkF m 5 #[.val (.ref oa), .val (.int (0 : Int32)), .val (.ref oa), .unset, .unset, .unset] [(.ref oa)])) _
  refine Goes.by (fun _ k => alen (z := (2 : Int32)) (fr := (mkF m 5 #[.val (.ref oa), .val (.int (0 : Int32)), .val (.ref oa), .unset, .unset, .unset] [(.ref oa)])) X0 hx hZ e0 A_oa (by decide) rfl rfl (hb hby d1_5) k) ?_
  show Goes p.tables e below (s₁.setTop (mkF m 6 #[.val (.ref oa), .val (.int (0 : Int32)), .val (.ref oa), .unset, .unset, .unset] [(.int (2 : Int32))])) _
  refine Goes.by (fun _ k => XS.istoreN X0.here hx rfl (hb hby d1_6) rfl (l' := #[.val (.ref oa), .val (.int (0 : Int32)), .val (.ref oa), .val (.int (2 : Int32)), .unset, .unset]) rfl k) ?_
  show Goes p.tables e below (s₁.setTop (mkF m 7 #[.val (.ref oa), .val (.int (0 : Int32)), .val (.ref oa), .val (.int (2 : Int32)), .unset, .unset] [])) _
  refine Goes.by (fun _ k => XS.iconst X0.here hx rfl (hb hby d1_7) k) ?_
  show Goes p.tables e below (s₁.setTop (mkF m 8 #[.val (.ref oa), .val (.int (0 : Int32)), .val (.ref oa), .val (.int (2 : Int32)), .unset, .unset] [(.int (0 : Int32))])) _
  refine Goes.by (fun _ k => XS.istore X0.here hx rfl (hb hby d1_8) rfl (l' := #[.val (.ref oa), .val (.int (0 : Int32)), .val (.ref oa), .val (.int (2 : Int32)), .val (.int (0 : Int32)), .unset]) rfl k) ?_
  show Goes p.tables e below (s₁.setTop (mkF m 10 #[.val (.ref oa), .val (.int (0 : Int32)), .val (.ref oa), .val (.int (2 : Int32)), .val (.int (0 : Int32)), .unset] [])) _
  refine Goes.by (fun _ k => XS.iload X0.here hx rfl (hb hby d1_10) rfl k) ?_
  show Goes p.tables e below (s₁.setTop (mkF m 12 #[.val (.ref oa), .val (.int (0 : Int32)), .val (.ref oa), .val (.int (2 : Int32)), .val (.int (0 : Int32)), .unset] [(.int (0 : Int32))])) _
  refine Goes.by (fun _ k => XS.iloadN X0.here hx rfl (hb hby d1_12) rfl k) ?_
  show Goes p.tables e below (s₁.setTop (mkF m 13 #[.val (.ref oa), .val (.int (0 : Int32)), .val (.ref oa), .val (.int (2 : Int32)), .val (.int (0 : Int32)), .unset] [(.int (2 : Int32)), (.int (0 : Int32))])) _
  refine Goes.by (fun _ k => XS.icmpNo X0.here hx rfl (hb hby d1_13) rfl (tlt (by decide : (0 : Int32) < (2 : Int32))).2.1 k) ?_
  show Goes p.tables e below (s₁.setTop (mkF m 16 #[.val (.ref oa), .val (.int (0 : Int32)), .val (.ref oa), .val (.int (2 : Int32)), .val (.int (0 : Int32)), .unset] [])) _
  refine Goes.by (fun _ k => XS.aloadN X0.here hx rfl (hb hby d1_16) rfl rfl k) ?_
  show Goes p.tables e below (s₁.setTop (mkF m 17 #[.val (.ref oa), .val (.int (0 : Int32)), .val (.ref oa), .val (.int (2 : Int32)), .val (.int (0 : Int32)), .unset] [(.ref oa)])) _
  refine Goes.by (fun _ k => XS.iload X0.here hx rfl (hb hby d1_17) rfl k) ?_
  show Goes p.tables e below (s₁.setTop (mkF m 19 #[.val (.ref oa), .val (.int (0 : Int32)), .val (.ref oa), .val (.int (2 : Int32)), .val (.int (0 : Int32)), .unset] [(.int (0 : Int32)), (.ref oa)])) _
  refine Goes.by (fun _ k => ldB (v := (pg 0)) (fr := (mkF m 19 #[.val (.ref oa), .val (.int (0 : Int32)), .val (.ref oa), .val (.int (2 : Int32)), .val (.int (0 : Int32)), .unset] [(.int (0 : Int32)), (.ref oa)])) X0 hx hZ e0 A_oa (i := 0) (by decide) (by decide) rfl rfl rfl (hb hby d1_19) k) ?_
  show Goes p.tables e below (s₁.setTop (mkF m 20 #[.val (.ref oa), .val (.int (0 : Int32)), .val (.ref oa), .val (.int (2 : Int32)), .val (.int (0 : Int32)), .unset] [(.int (pg 0))])) _
  refine Goes.by (fun _ k => XS.istore X0.here hx rfl (hb hby d1_20) rfl (l' := #[.val (.ref oa), .val (.int (0 : Int32)), .val (.ref oa), .val (.int (2 : Int32)), .val (.int (0 : Int32)), .val (.int (pg 0))]) rfl k) ?_
  show Goes p.tables e below (s₁.setTop (mkF m 22 #[.val (.ref oa), .val (.int (0 : Int32)), .val (.ref oa), .val (.int (2 : Int32)), .val (.int (0 : Int32)), .val (.int (pg 0))] [])) _
  refine Goes.by (fun _ k => XS.iloadN X0.here hx rfl (hb hby d1_22) rfl k) ?_
  show Goes p.tables e below (s₁.setTop (mkF m 23 #[.val (.ref oa), .val (.int (0 : Int32)), .val (.ref oa), .val (.int (2 : Int32)), .val (.int (0 : Int32)), .val (.int (pg 0))] [(.int (0 : Int32))])) _
  refine Goes.by (fun _ k => XS.bipush X0.here hx rfl (hb hby d1_23) k) ?_
  show Goes p.tables e below (s₁.setTop (mkF m 25 #[.val (.ref oa), .val (.int (0 : Int32)), .val (.ref oa), .val (.int (2 : Int32)), .val (.int (0 : Int32)), .val (.int (pg 0))] [(.int (8 : Int32)), (.int (0 : Int32))])) _
  refine Goes.by (fun _ k => XS.ishl X0.here hx rfl (hb hby d1_25) rfl k) ?_
  show Goes p.tables e below (s₁.setTop (mkF m 26 #[.val (.ref oa), .val (.int (0 : Int32)), .val (.ref oa), .val (.int (2 : Int32)), .val (.int (0 : Int32)), .val (.int (pg 0))] [(.int ((0 : Int32) <<< ((8 : Int32) &&& 31)))])) _
  refine Goes.by (fun _ k => XS.iload X0.here hx rfl (hb hby d1_26) rfl k) ?_
  show Goes p.tables e below (s₁.setTop (mkF m 28 #[.val (.ref oa), .val (.int (0 : Int32)), .val (.ref oa), .val (.int (2 : Int32)), .val (.int (0 : Int32)), .val (.int (pg 0))] [(.int (pg 0)), (.int ((0 : Int32) <<< ((8 : Int32) &&& 31)))])) _
  refine Goes.by (fun _ k => XS.sipush X0.here hx rfl (hb hby d1_28) k) ?_
  show Goes p.tables e below (s₁.setTop (mkF m 31 #[.val (.ref oa), .val (.int (0 : Int32)), .val (.ref oa), .val (.int (2 : Int32)), .val (.int (0 : Int32)), .val (.int (pg 0))] [(.int (255 : Int32)), (.int (pg 0)), (.int ((0 : Int32) <<< ((8 : Int32) &&& 31)))])) _
  refine Goes.by (fun _ k => XS.iand X0.here hx rfl (hb hby d1_31) rfl k) ?_
  show Goes p.tables e below (s₁.setTop (mkF m 32 #[.val (.ref oa), .val (.int (0 : Int32)), .val (.ref oa), .val (.int (2 : Int32)), .val (.int (0 : Int32)), .val (.int (pg 0))] [(.int ((pg 0) &&& (255 : Int32))), (.int ((0 : Int32) <<< ((8 : Int32) &&& 31)))])) _
  refine Goes.by (fun _ k => XS.ior X0.here hx rfl (hb hby d1_32) rfl k) ?_
  show Goes p.tables e below (s₁.setTop (mkF m 33 #[.val (.ref oa), .val (.int (0 : Int32)), .val (.ref oa), .val (.int (2 : Int32)), .val (.int (0 : Int32)), .val (.int (pg 0))] [(.int (((0 : Int32) <<< ((8 : Int32) &&& 31)) ||| ((pg 0) &&& (255 : Int32))))])) _
  refine Goes.by (fun _ k => XS.istoreN X0.here hx rfl (hb hby d1_33) rfl (l' := #[.val (.ref oa), .val (.int (((0 : Int32) <<< ((8 : Int32) &&& 31)) ||| ((pg 0) &&& (255 : Int32)))), .val (.ref oa), .val (.int (2 : Int32)), .val (.int (0 : Int32)), .val (.int (pg 0))]) rfl k) ?_
  show Goes p.tables e below (s₁.setTop (mkF m 34 #[.val (.ref oa), .val (.int (((0 : Int32) <<< ((8 : Int32) &&& 31)) ||| ((pg 0) &&& (255 : Int32)))), .val (.ref oa), .val (.int (2 : Int32)), .val (.int (0 : Int32)), .val (.int (pg 0))] [])) _
  refine Goes.by (fun _ k => XS.iinc X0.here hx rfl (hb hby d1_34) rfl (l' := #[.val (.ref oa), .val (.int (((0 : Int32) <<< ((8 : Int32) &&& 31)) ||| ((pg 0) &&& (255 : Int32)))), .val (.ref oa), .val (.int (2 : Int32)), .val (.int (1 : Int32)), .val (.int (pg 0))]) rfl k) ?_
  show Goes p.tables e below (s₁.setTop (mkF m 37 #[.val (.ref oa), .val (.int (((0 : Int32) <<< ((8 : Int32) &&& 31)) ||| ((pg 0) &&& (255 : Int32)))), .val (.ref oa), .val (.int (2 : Int32)), .val (.int (1 : Int32)), .val (.int (pg 0))] [])) _
  refine Goes.by (fun _ k => XS.goto X0.here hx rfl (pc0 := 37) (pc' := 10) rfl (hb hby d1_37) (by decide) (by decide) k) ?_
  show Goes p.tables e below (s₁.setTop (mkF m 10 #[.val (.ref oa), .val (.int (((0 : Int32) <<< ((8 : Int32) &&& 31)) ||| ((pg 0) &&& (255 : Int32)))), .val (.ref oa), .val (.int (2 : Int32)), .val (.int (1 : Int32)), .val (.int (pg 0))] [])) _
  refine Goes.by (fun _ k => XS.iload X0.here hx rfl (hb hby d1_10) rfl k) ?_
  show Goes p.tables e below (s₁.setTop (mkF m 12 #[.val (.ref oa), .val (.int (((0 : Int32) <<< ((8 : Int32) &&& 31)) ||| ((pg 0) &&& (255 : Int32)))), .val (.ref oa), .val (.int (2 : Int32)), .val (.int (1 : Int32)), .val (.int (pg 0))] [(.int (1 : Int32))])) _
  refine Goes.by (fun _ k => XS.iloadN X0.here hx rfl (hb hby d1_12) rfl k) ?_
  show Goes p.tables e below (s₁.setTop (mkF m 13 #[.val (.ref oa), .val (.int (((0 : Int32) <<< ((8 : Int32) &&& 31)) ||| ((pg 0) &&& (255 : Int32)))), .val (.ref oa), .val (.int (2 : Int32)), .val (.int (1 : Int32)), .val (.int (pg 0))] [(.int (2 : Int32)), (.int (1 : Int32))])) _
  refine Goes.by (fun _ k => XS.icmpNo X0.here hx rfl (hb hby d1_13) rfl (tlt (by decide : (1 : Int32) < (2 : Int32))).2.1 k) ?_
  show Goes p.tables e below (s₁.setTop (mkF m 16 #[.val (.ref oa), .val (.int (((0 : Int32) <<< ((8 : Int32) &&& 31)) ||| ((pg 0) &&& (255 : Int32)))), .val (.ref oa), .val (.int (2 : Int32)), .val (.int (1 : Int32)), .val (.int (pg 0))] [])) _
  refine Goes.by (fun _ k => XS.aloadN X0.here hx rfl (hb hby d1_16) rfl rfl k) ?_
  show Goes p.tables e below (s₁.setTop (mkF m 17 #[.val (.ref oa), .val (.int (((0 : Int32) <<< ((8 : Int32) &&& 31)) ||| ((pg 0) &&& (255 : Int32)))), .val (.ref oa), .val (.int (2 : Int32)), .val (.int (1 : Int32)), .val (.int (pg 0))] [(.ref oa)])) _
  refine Goes.by (fun _ k => XS.iload X0.here hx rfl (hb hby d1_17) rfl k) ?_
  show Goes p.tables e below (s₁.setTop (mkF m 19 #[.val (.ref oa), .val (.int (((0 : Int32) <<< ((8 : Int32) &&& 31)) ||| ((pg 0) &&& (255 : Int32)))), .val (.ref oa), .val (.int (2 : Int32)), .val (.int (1 : Int32)), .val (.int (pg 0))] [(.int (1 : Int32)), (.ref oa)])) _
  refine Goes.by (fun _ k => ldB (v := (pg 1)) (fr := (mkF m 19 #[.val (.ref oa), .val (.int (((0 : Int32) <<< ((8 : Int32) &&& 31)) ||| ((pg 0) &&& (255 : Int32)))), .val (.ref oa), .val (.int (2 : Int32)), .val (.int (1 : Int32)), .val (.int (pg 0))] [(.int (1 : Int32)), (.ref oa)])) X0 hx hZ e0 A_oa (i := 1) (by decide) (by decide) rfl rfl rfl (hb hby d1_19) k) ?_
  show Goes p.tables e below (s₁.setTop (mkF m 20 #[.val (.ref oa), .val (.int (((0 : Int32) <<< ((8 : Int32) &&& 31)) ||| ((pg 0) &&& (255 : Int32)))), .val (.ref oa), .val (.int (2 : Int32)), .val (.int (1 : Int32)), .val (.int (pg 0))] [(.int (pg 1))])) _
  refine Goes.by (fun _ k => XS.istore X0.here hx rfl (hb hby d1_20) rfl (l' := #[.val (.ref oa), .val (.int (((0 : Int32) <<< ((8 : Int32) &&& 31)) ||| ((pg 0) &&& (255 : Int32)))), .val (.ref oa), .val (.int (2 : Int32)), .val (.int (1 : Int32)), .val (.int (pg 1))]) rfl k) ?_
  show Goes p.tables e below (s₁.setTop (mkF m 22 #[.val (.ref oa), .val (.int (((0 : Int32) <<< ((8 : Int32) &&& 31)) ||| ((pg 0) &&& (255 : Int32)))), .val (.ref oa), .val (.int (2 : Int32)), .val (.int (1 : Int32)), .val (.int (pg 1))] [])) _
  refine Goes.by (fun _ k => XS.iloadN X0.here hx rfl (hb hby d1_22) rfl k) ?_
  show Goes p.tables e below (s₁.setTop (mkF m 23 #[.val (.ref oa), .val (.int (((0 : Int32) <<< ((8 : Int32) &&& 31)) ||| ((pg 0) &&& (255 : Int32)))), .val (.ref oa), .val (.int (2 : Int32)), .val (.int (1 : Int32)), .val (.int (pg 1))] [(.int (((0 : Int32) <<< ((8 : Int32) &&& 31)) ||| ((pg 0) &&& (255 : Int32))))])) _
  refine Goes.by (fun _ k => XS.bipush X0.here hx rfl (hb hby d1_23) k) ?_
  show Goes p.tables e below (s₁.setTop (mkF m 25 #[.val (.ref oa), .val (.int (((0 : Int32) <<< ((8 : Int32) &&& 31)) ||| ((pg 0) &&& (255 : Int32)))), .val (.ref oa), .val (.int (2 : Int32)), .val (.int (1 : Int32)), .val (.int (pg 1))] [(.int (8 : Int32)), (.int (((0 : Int32) <<< ((8 : Int32) &&& 31)) ||| ((pg 0) &&& (255 : Int32))))])) _
  refine Goes.by (fun _ k => XS.ishl X0.here hx rfl (hb hby d1_25) rfl k) ?_
  show Goes p.tables e below (s₁.setTop (mkF m 26 #[.val (.ref oa), .val (.int (((0 : Int32) <<< ((8 : Int32) &&& 31)) ||| ((pg 0) &&& (255 : Int32)))), .val (.ref oa), .val (.int (2 : Int32)), .val (.int (1 : Int32)), .val (.int (pg 1))] [(.int ((((0 : Int32) <<< ((8 : Int32) &&& 31)) ||| ((pg 0) &&& (255 : Int32))) <<< ((8 : Int32) &&& 31)))])) _
  refine Goes.by (fun _ k => XS.iload X0.here hx rfl (hb hby d1_26) rfl k) ?_
  show Goes p.tables e below (s₁.setTop (mkF m 28 #[.val (.ref oa), .val (.int (((0 : Int32) <<< ((8 : Int32) &&& 31)) ||| ((pg 0) &&& (255 : Int32)))), .val (.ref oa), .val (.int (2 : Int32)), .val (.int (1 : Int32)), .val (.int (pg 1))] [(.int (pg 1)), (.int ((((0 : Int32) <<< ((8 : Int32) &&& 31)) ||| ((pg 0) &&& (255 : Int32))) <<< ((8 : Int32) &&& 31)))])) _
  refine Goes.by (fun _ k => XS.sipush X0.here hx rfl (hb hby d1_28) k) ?_
  show Goes p.tables e below (s₁.setTop (mkF m 31 #[.val (.ref oa), .val (.int (((0 : Int32) <<< ((8 : Int32) &&& 31)) ||| ((pg 0) &&& (255 : Int32)))), .val (.ref oa), .val (.int (2 : Int32)), .val (.int (1 : Int32)), .val (.int (pg 1))] [(.int (255 : Int32)), (.int (pg 1)), (.int ((((0 : Int32) <<< ((8 : Int32) &&& 31)) ||| ((pg 0) &&& (255 : Int32))) <<< ((8 : Int32) &&& 31)))])) _
  refine Goes.by (fun _ k => XS.iand X0.here hx rfl (hb hby d1_31) rfl k) ?_
  show Goes p.tables e below (s₁.setTop (mkF m 32 #[.val (.ref oa), .val (.int (((0 : Int32) <<< ((8 : Int32) &&& 31)) ||| ((pg 0) &&& (255 : Int32)))), .val (.ref oa), .val (.int (2 : Int32)), .val (.int (1 : Int32)), .val (.int (pg 1))] [(.int ((pg 1) &&& (255 : Int32))), (.int ((((0 : Int32) <<< ((8 : Int32) &&& 31)) ||| ((pg 0) &&& (255 : Int32))) <<< ((8 : Int32) &&& 31)))])) _
  refine Goes.by (fun _ k => XS.ior X0.here hx rfl (hb hby d1_32) rfl k) ?_
  show Goes p.tables e below (s₁.setTop (mkF m 33 #[.val (.ref oa), .val (.int (((0 : Int32) <<< ((8 : Int32) &&& 31)) ||| ((pg 0) &&& (255 : Int32)))), .val (.ref oa), .val (.int (2 : Int32)), .val (.int (1 : Int32)), .val (.int (pg 1))] [(.int (((((0 : Int32) <<< ((8 : Int32) &&& 31)) ||| ((pg 0) &&& (255 : Int32))) <<< ((8 : Int32) &&& 31)) ||| ((pg 1) &&& (255 : Int32))))])) _
  refine Goes.by (fun _ k => XS.istoreN X0.here hx rfl (hb hby d1_33) rfl (l' := #[.val (.ref oa), .val (.int (((((0 : Int32) <<< ((8 : Int32) &&& 31)) ||| ((pg 0) &&& (255 : Int32))) <<< ((8 : Int32) &&& 31)) ||| ((pg 1) &&& (255 : Int32)))), .val (.ref oa), .val (.int (2 : Int32)), .val (.int (1 : Int32)), .val (.int (pg 1))]) rfl k) ?_
  show Goes p.tables e below (s₁.setTop (mkF m 34 #[.val (.ref oa), .val (.int (((((0 : Int32) <<< ((8 : Int32) &&& 31)) ||| ((pg 0) &&& (255 : Int32))) <<< ((8 : Int32) &&& 31)) ||| ((pg 1) &&& (255 : Int32)))), .val (.ref oa), .val (.int (2 : Int32)), .val (.int (1 : Int32)), .val (.int (pg 1))] [])) _
  refine Goes.by (fun _ k => XS.iinc X0.here hx rfl (hb hby d1_34) rfl (l' := #[.val (.ref oa), .val (.int (((((0 : Int32) <<< ((8 : Int32) &&& 31)) ||| ((pg 0) &&& (255 : Int32))) <<< ((8 : Int32) &&& 31)) ||| ((pg 1) &&& (255 : Int32)))), .val (.ref oa), .val (.int (2 : Int32)), .val (.int (2 : Int32)), .val (.int (pg 1))]) rfl k) ?_
  show Goes p.tables e below (s₁.setTop (mkF m 37 #[.val (.ref oa), .val (.int (((((0 : Int32) <<< ((8 : Int32) &&& 31)) ||| ((pg 0) &&& (255 : Int32))) <<< ((8 : Int32) &&& 31)) ||| ((pg 1) &&& (255 : Int32)))), .val (.ref oa), .val (.int (2 : Int32)), .val (.int (2 : Int32)), .val (.int (pg 1))] [])) _
  refine Goes.by (fun _ k => XS.goto X0.here hx rfl (pc0 := 37) (pc' := 10) rfl (hb hby d1_37) (by decide) (by decide) k) ?_
  show Goes p.tables e below (s₁.setTop (mkF m 10 #[.val (.ref oa), .val (.int (((((0 : Int32) <<< ((8 : Int32) &&& 31)) ||| ((pg 0) &&& (255 : Int32))) <<< ((8 : Int32) &&& 31)) ||| ((pg 1) &&& (255 : Int32)))), .val (.ref oa), .val (.int (2 : Int32)), .val (.int (2 : Int32)), .val (.int (pg 1))] [])) _
  refine Goes.by (fun _ k => XS.iload X0.here hx rfl (hb hby d1_10) rfl k) ?_
  show Goes p.tables e below (s₁.setTop (mkF m 12 #[.val (.ref oa), .val (.int (((((0 : Int32) <<< ((8 : Int32) &&& 31)) ||| ((pg 0) &&& (255 : Int32))) <<< ((8 : Int32) &&& 31)) ||| ((pg 1) &&& (255 : Int32)))), .val (.ref oa), .val (.int (2 : Int32)), .val (.int (2 : Int32)), .val (.int (pg 1))] [(.int (2 : Int32))])) _
  refine Goes.by (fun _ k => XS.iloadN X0.here hx rfl (hb hby d1_12) rfl k) ?_
  show Goes p.tables e below (s₁.setTop (mkF m 13 #[.val (.ref oa), .val (.int (((((0 : Int32) <<< ((8 : Int32) &&& 31)) ||| ((pg 0) &&& (255 : Int32))) <<< ((8 : Int32) &&& 31)) ||| ((pg 1) &&& (255 : Int32)))), .val (.ref oa), .val (.int (2 : Int32)), .val (.int (2 : Int32)), .val (.int (pg 1))] [(.int (2 : Int32)), (.int (2 : Int32))])) _
  refine Goes.by (fun _ k => XS.icmpYes X0.here hx rfl (pc0 := 13) (pc' := 40) rfl (hb hby d1_13) rfl (flt (by decide : ¬ ((2 : Int32) < (2 : Int32)))).2.1 (by decide) (by decide) k) ?_
  show Goes p.tables e below (s₁.setTop (mkF m 40 #[.val (.ref oa), .val (.int (((((0 : Int32) <<< ((8 : Int32) &&& 31)) ||| ((pg 0) &&& (255 : Int32))) <<< ((8 : Int32) &&& 31)) ||| ((pg 1) &&& (255 : Int32)))), .val (.ref oa), .val (.int (2 : Int32)), .val (.int (2 : Int32)), .val (.int (pg 1))] [])) _
  refine Goes.by (fun _ k => XS.iloadN X0.here hx rfl (hb hby d1_40) rfl k) ?_
  show Goes p.tables e below (s₁.setTop (mkF m 41 #[.val (.ref oa), .val (.int (((((0 : Int32) <<< ((8 : Int32) &&& 31)) ||| ((pg 0) &&& (255 : Int32))) <<< ((8 : Int32) &&& 31)) ||| ((pg 1) &&& (255 : Int32)))), .val (.ref oa), .val (.int (2 : Int32)), .val (.int (2 : Int32)), .val (.int (pg 1))] [(.int (((((0 : Int32) <<< ((8 : Int32) &&& 31)) ||| ((pg 0) &&& (255 : Int32))) <<< ((8 : Int32) &&& 31)) ||| ((pg 1) &&& (255 : Int32))))])) _
  obtain ⟨fs, hr, hrun, hended, hW, hsame⟩ := X0.leave (v := some (.int (((((0 : Int32) <<< ((8 : Int32) &&& 31)) ||| ((pg 0) &&& (255 : Int32))) <<< ((8 : Int32) &&& 31)) ||| ((pg 1) &&& (255 : Int32))))) (fun h => by rw [Bd.returns] at h; cases h)
  refine ⟨_, _, retI X0 hx Bd.returns (hb hby d1_41) hr, hrun, hended, _, _, rfl, ?_, ⟨_, rfl⟩, hW, hsame.mono (by decide) (by decide)⟩
  show Q1n2 Z oa pg h0 n0 _ s₁.heap _
  rw [e0]
  exact ⟨rfl, N0, rfl⟩
theorem ef1n3 (m : MethodId) (oa : Addr) : entryFrame m #[(.ref oa)] 6 = mkF m 0 #[.val (.ref oa), .unset, .unset, .unset, .unset, .unset] [] := by first | (simp [entryFrame, mkF, argsToLocals, Value.category]; done) | rfl
def Q1n3 (Z : State) (oa : Addr) (pg : Nat → Int32) (h0 : Heap) (n0 : Nat) (v : Option Value) (h : Heap) (L : List Loc) : Prop := v = some (.int (((((((0 : Int32) <<< ((8 : Int32) &&& 31)) ||| ((pg 0) &&& (255 : Int32))) <<< ((8 : Int32) &&& 31)) ||| ((pg 1) &&& (255 : Int32))) <<< ((8 : Int32) &&& 31)) ||| ((pg 2) &&& (255 : Int32)))) ∧ Fr n0 L ∧ h = h0
set_option maxRecDepth 65536 in
set_option maxHeartbeats 40000000 in
theorem rm1n3 (l : Launch) (Z : State) (a0 : Array Value) (hw : ∀ d ∈ tables_1, d.before a0 Z = true) (ws : List Jvm.Cond) (oa : Addr) (pg : Nat → Int32) (h0 : Heap) (n0 : Nat) (Z0 : n0 ≤ h0.size) (A_oa : AI Z h0 oa .byte 3 pg) :
    MetFree l (⟨"castkey/card/ModeObjects", "number", "([B)I"⟩ : MethodName) (head1 (Jvm.Cond.code (⟨"castkey/card/ModeObjects", "number", "([B)I"⟩ : MethodName) prog_16_method_5_code 6 (some .int) :: ws) ({ frames := 0, cells := 0, slots := 0, locals := 0 } : Room)) (fun a U => a = #[(.ref oa)] ∧ Z.Warmed39 U.vm ∧ U.heap = h0) (fun _ _ _ _ _ => True) (fun _ U o U' => ∃ v L, o = .returned v ∧ Q1n3 Z oa pg h0 n0 v U'.heap L ∧ FrameEnd U o U' L ({ frames := 0, cells := 0, slots := 0, locals := 0 } : Room).cells ({ frames := 0, cells := 0, slots := 0, locals := 0 } : Room).slots) := by
  refine MetFree.of_bodySF (plainFor_of_name pn_0) hisR ?_
  intro p e s m args below meth c s₁ Bd hml0 hP hK
  obtain ⟨rfl, hZ, hh⟩ := hP
  have hx := Bd.exec
  have hby := Bd.bytes
  have hml : c.maxLocals = 6 := hml0
  have hown : s.vm.findClass "castkey/card/ModeObjects" = some m.cls := findClass_of_methodNamed Bd.named
  have hnm := (name_of_methodNamed Bd.named Bd.method).1
  have X0 : Stand p l e ({ frames := 0, cells := 0, slots := 0, locals := 0 } : Room) s m #[(.ref oa)] below meth c s₁ [] 0 0 := Stand.of_body Bd
  have e0 : s₁.heap = h0 := by rw [← hh, Bd.state]; rfl
  have N0 := Fr.nil n0
  refine Goes.by (fun _ k => castTop (ef1n3 m oa) k) ?_
  show Goes p.tables e below (s₁.setTop (mkF m 0 #[.val (.ref oa), .unset, .unset, .unset, .unset, .unset] [])) _
  refine Goes.by (fun _ k => XS.iconst X0.here hx rfl (hb hby d1_0) k) ?_
  show Goes p.tables e below (s₁.setTop (mkF m 1 #[.val (.ref oa), .unset, .unset, .unset, .unset, .unset] [(.int (0 : Int32))])) _
  refine Goes.by (fun _ k => XS.istoreN X0.here hx rfl (hb hby d1_1) rfl (l' := #[.val (.ref oa), .val (.int (0 : Int32)), .unset, .unset, .unset, .unset]) rfl k) ?_
  show Goes p.tables e below (s₁.setTop (mkF m 2 #[.val (.ref oa), .val (.int (0 : Int32)), .unset, .unset, .unset, .unset] [])) _
  refine Goes.by (fun _ k => XS.aloadN X0.here hx rfl (hb hby d1_2) rfl rfl k) ?_
  show Goes p.tables e below (s₁.setTop (mkF m 3 #[.val (.ref oa), .val (.int (0 : Int32)), .unset, .unset, .unset, .unset] [(.ref oa)])) _
  refine Goes.by (fun _ k => XS.astoreN X0.here hx rfl (hb hby d1_3) rfl rfl (l' := #[.val (.ref oa), .val (.int (0 : Int32)), .val (.ref oa), .unset, .unset, .unset]) rfl k) ?_
  show Goes p.tables e below (s₁.setTop (mkF m 4 #[.val (.ref oa), .val (.int (0 : Int32)), .val (.ref oa), .unset, .unset, .unset] [])) _
  refine Goes.by (fun _ k => XS.aloadN X0.here hx rfl (hb hby d1_4) rfl rfl k) ?_
  show Goes p.tables e below (s₁.setTop (mkF m 5 #[.val (.ref oa), .val (.int (0 : Int32)), .val (.ref oa), .unset, .unset, .unset] [(.ref oa)])) _
  refine Goes.by (fun _ k => alen (z := (3 : Int32)) (fr := (mkF m 5 #[.val (.ref oa), .val (.int (0 : Int32)), .val (.ref oa), .unset, .unset, .unset] [(.ref oa)])) X0 hx hZ e0 A_oa (by decide) rfl rfl (hb hby d1_5) k) ?_
  show Goes p.tables e below (s₁.setTop (mkF m 6 #[.val (.ref oa), .val (.int (0 : Int32)), .val (.ref oa), .unset, .unset, .unset] [(.int (3 : Int32))])) _
  refine Goes.by (fun _ k => XS.istoreN X0.here hx rfl (hb hby d1_6) rfl (l' := #[.val (.ref oa), .val (.int (0 : Int32)), .val (.ref oa), .val (.int (3 : Int32)), .unset, .unset]) rfl k) ?_
  show Goes p.tables e below (s₁.setTop (mkF m 7 #[.val (.ref oa), .val (.int (0 : Int32)), .val (.ref oa), .val (.int (3 : Int32)), .unset, .unset] [])) _
  refine Goes.by (fun _ k => XS.iconst X0.here hx rfl (hb hby d1_7) k) ?_
  show Goes p.tables e below (s₁.setTop (mkF m 8 #[.val (.ref oa), .val (.int (0 : Int32)), .val (.ref oa), .val (.int (3 : Int32)), .unset, .unset] [(.int (0 : Int32))])) _
  refine Goes.by (fun _ k => XS.istore X0.here hx rfl (hb hby d1_8) rfl (l' := #[.val (.ref oa), .val (.int (0 : Int32)), .val (.ref oa), .val (.int (3 : Int32)), .val (.int (0 : Int32)), .unset]) rfl k) ?_
  show Goes p.tables e below (s₁.setTop (mkF m 10 #[.val (.ref oa), .val (.int (0 : Int32)), .val (.ref oa), .val (.int (3 : Int32)), .val (.int (0 : Int32)), .unset] [])) _
  refine Goes.by (fun _ k => XS.iload X0.here hx rfl (hb hby d1_10) rfl k) ?_
  show Goes p.tables e below (s₁.setTop (mkF m 12 #[.val (.ref oa), .val (.int (0 : Int32)), .val (.ref oa), .val (.int (3 : Int32)), .val (.int (0 : Int32)), .unset] [(.int (0 : Int32))])) _
  refine Goes.by (fun _ k => XS.iloadN X0.here hx rfl (hb hby d1_12) rfl k) ?_
  show Goes p.tables e below (s₁.setTop (mkF m 13 #[.val (.ref oa), .val (.int (0 : Int32)), .val (.ref oa), .val (.int (3 : Int32)), .val (.int (0 : Int32)), .unset] [(.int (3 : Int32)), (.int (0 : Int32))])) _
  refine Goes.by (fun _ k => XS.icmpNo X0.here hx rfl (hb hby d1_13) rfl (tlt (by decide : (0 : Int32) < (3 : Int32))).2.1 k) ?_
  show Goes p.tables e below (s₁.setTop (mkF m 16 #[.val (.ref oa), .val (.int (0 : Int32)), .val (.ref oa), .val (.int (3 : Int32)), .val (.int (0 : Int32)), .unset] [])) _
  refine Goes.by (fun _ k => XS.aloadN X0.here hx rfl (hb hby d1_16) rfl rfl k) ?_
  show Goes p.tables e below (s₁.setTop (mkF m 17 #[.val (.ref oa), .val (.int (0 : Int32)), .val (.ref oa), .val (.int (3 : Int32)), .val (.int (0 : Int32)), .unset] [(.ref oa)])) _
  refine Goes.by (fun _ k => XS.iload X0.here hx rfl (hb hby d1_17) rfl k) ?_
  show Goes p.tables e below (s₁.setTop (mkF m 19 #[.val (.ref oa), .val (.int (0 : Int32)), .val (.ref oa), .val (.int (3 : Int32)), .val (.int (0 : Int32)), .unset] [(.int (0 : Int32)), (.ref oa)])) _
  refine Goes.by (fun _ k => ldB (v := (pg 0)) (fr := (mkF m 19 #[.val (.ref oa), .val (.int (0 : Int32)), .val (.ref oa), .val (.int (3 : Int32)), .val (.int (0 : Int32)), .unset] [(.int (0 : Int32)), (.ref oa)])) X0 hx hZ e0 A_oa (i := 0) (by decide) (by decide) rfl rfl rfl (hb hby d1_19) k) ?_
  show Goes p.tables e below (s₁.setTop (mkF m 20 #[.val (.ref oa), .val (.int (0 : Int32)), .val (.ref oa), .val (.int (3 : Int32)), .val (.int (0 : Int32)), .unset] [(.int (pg 0))])) _
  refine Goes.by (fun _ k => XS.istore X0.here hx rfl (hb hby d1_20) rfl (l' := #[.val (.ref oa), .val (.int (0 : Int32)), .val (.ref oa), .val (.int (3 : Int32)), .val (.int (0 : Int32)), .val (.int (pg 0))]) rfl k) ?_
  show Goes p.tables e below (s₁.setTop (mkF m 22 #[.val (.ref oa), .val (.int (0 : Int32)), .val (.ref oa), .val (.int (3 : Int32)), .val (.int (0 : Int32)), .val (.int (pg 0))] [])) _
  refine Goes.by (fun _ k => XS.iloadN X0.here hx rfl (hb hby d1_22) rfl k) ?_
  show Goes p.tables e below (s₁.setTop (mkF m 23 #[.val (.ref oa), .val (.int (0 : Int32)), .val (.ref oa), .val (.int (3 : Int32)), .val (.int (0 : Int32)), .val (.int (pg 0))] [(.int (0 : Int32))])) _
  refine Goes.by (fun _ k => XS.bipush X0.here hx rfl (hb hby d1_23) k) ?_
  show Goes p.tables e below (s₁.setTop (mkF m 25 #[.val (.ref oa), .val (.int (0 : Int32)), .val (.ref oa), .val (.int (3 : Int32)), .val (.int (0 : Int32)), .val (.int (pg 0))] [(.int (8 : Int32)), (.int (0 : Int32))])) _
  refine Goes.by (fun _ k => XS.ishl X0.here hx rfl (hb hby d1_25) rfl k) ?_
  show Goes p.tables e below (s₁.setTop (mkF m 26 #[.val (.ref oa), .val (.int (0 : Int32)), .val (.ref oa), .val (.int (3 : Int32)), .val (.int (0 : Int32)), .val (.int (pg 0))] [(.int ((0 : Int32) <<< ((8 : Int32) &&& 31)))])) _
  refine Goes.by (fun _ k => XS.iload X0.here hx rfl (hb hby d1_26) rfl k) ?_
  show Goes p.tables e below (s₁.setTop (mkF m 28 #[.val (.ref oa), .val (.int (0 : Int32)), .val (.ref oa), .val (.int (3 : Int32)), .val (.int (0 : Int32)), .val (.int (pg 0))] [(.int (pg 0)), (.int ((0 : Int32) <<< ((8 : Int32) &&& 31)))])) _
  refine Goes.by (fun _ k => XS.sipush X0.here hx rfl (hb hby d1_28) k) ?_
  show Goes p.tables e below (s₁.setTop (mkF m 31 #[.val (.ref oa), .val (.int (0 : Int32)), .val (.ref oa), .val (.int (3 : Int32)), .val (.int (0 : Int32)), .val (.int (pg 0))] [(.int (255 : Int32)), (.int (pg 0)), (.int ((0 : Int32) <<< ((8 : Int32) &&& 31)))])) _
  refine Goes.by (fun _ k => XS.iand X0.here hx rfl (hb hby d1_31) rfl k) ?_
  show Goes p.tables e below (s₁.setTop (mkF m 32 #[.val (.ref oa), .val (.int (0 : Int32)), .val (.ref oa), .val (.int (3 : Int32)), .val (.int (0 : Int32)), .val (.int (pg 0))] [(.int ((pg 0) &&& (255 : Int32))), (.int ((0 : Int32) <<< ((8 : Int32) &&& 31)))])) _
  refine Goes.by (fun _ k => XS.ior X0.here hx rfl (hb hby d1_32) rfl k) ?_
  show Goes p.tables e below (s₁.setTop (mkF m 33 #[.val (.ref oa), .val (.int (0 : Int32)), .val (.ref oa), .val (.int (3 : Int32)), .val (.int (0 : Int32)), .val (.int (pg 0))] [(.int (((0 : Int32) <<< ((8 : Int32) &&& 31)) ||| ((pg 0) &&& (255 : Int32))))])) _
  refine Goes.by (fun _ k => XS.istoreN X0.here hx rfl (hb hby d1_33) rfl (l' := #[.val (.ref oa), .val (.int (((0 : Int32) <<< ((8 : Int32) &&& 31)) ||| ((pg 0) &&& (255 : Int32)))), .val (.ref oa), .val (.int (3 : Int32)), .val (.int (0 : Int32)), .val (.int (pg 0))]) rfl k) ?_
  show Goes p.tables e below (s₁.setTop (mkF m 34 #[.val (.ref oa), .val (.int (((0 : Int32) <<< ((8 : Int32) &&& 31)) ||| ((pg 0) &&& (255 : Int32)))), .val (.ref oa), .val (.int (3 : Int32)), .val (.int (0 : Int32)), .val (.int (pg 0))] [])) _
  refine Goes.by (fun _ k => XS.iinc X0.here hx rfl (hb hby d1_34) rfl (l' := #[.val (.ref oa), .val (.int (((0 : Int32) <<< ((8 : Int32) &&& 31)) ||| ((pg 0) &&& (255 : Int32)))), .val (.ref oa), .val (.int (3 : Int32)), .val (.int (1 : Int32)), .val (.int (pg 0))]) rfl k) ?_
  show Goes p.tables e below (s₁.setTop (mkF m 37 #[.val (.ref oa), .val (.int (((0 : Int32) <<< ((8 : Int32) &&& 31)) ||| ((pg 0) &&& (255 : Int32)))), .val (.ref oa), .val (.int (3 : Int32)), .val (.int (1 : Int32)), .val (.int (pg 0))] [])) _
  refine Goes.by (fun _ k => XS.goto X0.here hx rfl (pc0 := 37) (pc' := 10) rfl (hb hby d1_37) (by decide) (by decide) k) ?_
  show Goes p.tables e below (s₁.setTop (mkF m 10 #[.val (.ref oa), .val (.int (((0 : Int32) <<< ((8 : Int32) &&& 31)) ||| ((pg 0) &&& (255 : Int32)))), .val (.ref oa), .val (.int (3 : Int32)), .val (.int (1 : Int32)), .val (.int (pg 0))] [])) _
  refine Goes.by (fun _ k => XS.iload X0.here hx rfl (hb hby d1_10) rfl k) ?_
  show Goes p.tables e below (s₁.setTop (mkF m 12 #[.val (.ref oa), .val (.int (((0 : Int32) <<< ((8 : Int32) &&& 31)) ||| ((pg 0) &&& (255 : Int32)))), .val (.ref oa), .val (.int (3 : Int32)), .val (.int (1 : Int32)), .val (.int (pg 0))] [(.int (1 : Int32))])) _
  refine Goes.by (fun _ k => XS.iloadN X0.here hx rfl (hb hby d1_12) rfl k) ?_
  show Goes p.tables e below (s₁.setTop (mkF m 13 #[.val (.ref oa), .val (.int (((0 : Int32) <<< ((8 : Int32) &&& 31)) ||| ((pg 0) &&& (255 : Int32)))), .val (.ref oa), .val (.int (3 : Int32)), .val (.int (1 : Int32)), .val (.int (pg 0))] [(.int (3 : Int32)), (.int (1 : Int32))])) _
  refine Goes.by (fun _ k => XS.icmpNo X0.here hx rfl (hb hby d1_13) rfl (tlt (by decide : (1 : Int32) < (3 : Int32))).2.1 k) ?_
  show Goes p.tables e below (s₁.setTop (mkF m 16 #[.val (.ref oa), .val (.int (((0 : Int32) <<< ((8 : Int32) &&& 31)) ||| ((pg 0) &&& (255 : Int32)))), .val (.ref oa), .val (.int (3 : Int32)), .val (.int (1 : Int32)), .val (.int (pg 0))] [])) _
  refine Goes.by (fun _ k => XS.aloadN X0.here hx rfl (hb hby d1_16) rfl rfl k) ?_
  show Goes p.tables e below (s₁.setTop (mkF m 17 #[.val (.ref oa), .val (.int (((0 : Int32) <<< ((8 : Int32) &&& 31)) ||| ((pg 0) &&& (255 : Int32)))), .val (.ref oa), .val (.int (3 : Int32)), .val (.int (1 : Int32)), .val (.int (pg 0))] [(.ref oa)])) _
  refine Goes.by (fun _ k => XS.iload X0.here hx rfl (hb hby d1_17) rfl k) ?_
  show Goes p.tables e below (s₁.setTop (mkF m 19 #[.val (.ref oa), .val (.int (((0 : Int32) <<< ((8 : Int32) &&& 31)) ||| ((pg 0) &&& (255 : Int32)))), .val (.ref oa), .val (.int (3 : Int32)), .val (.int (1 : Int32)), .val (.int (pg 0))] [(.int (1 : Int32)), (.ref oa)])) _
  refine Goes.by (fun _ k => ldB (v := (pg 1)) (fr := (mkF m 19 #[.val (.ref oa), .val (.int (((0 : Int32) <<< ((8 : Int32) &&& 31)) ||| ((pg 0) &&& (255 : Int32)))), .val (.ref oa), .val (.int (3 : Int32)), .val (.int (1 : Int32)), .val (.int (pg 0))] [(.int (1 : Int32)), (.ref oa)])) X0 hx hZ e0 A_oa (i := 1) (by decide) (by decide) rfl rfl rfl (hb hby d1_19) k) ?_
  show Goes p.tables e below (s₁.setTop (mkF m 20 #[.val (.ref oa), .val (.int (((0 : Int32) <<< ((8 : Int32) &&& 31)) ||| ((pg 0) &&& (255 : Int32)))), .val (.ref oa), .val (.int (3 : Int32)), .val (.int (1 : Int32)), .val (.int (pg 0))] [(.int (pg 1))])) _
  refine Goes.by (fun _ k => XS.istore X0.here hx rfl (hb hby d1_20) rfl (l' := #[.val (.ref oa), .val (.int (((0 : Int32) <<< ((8 : Int32) &&& 31)) ||| ((pg 0) &&& (255 : Int32)))), .val (.ref oa), .val (.int (3 : Int32)), .val (.int (1 : Int32)), .val (.int (pg 1))]) rfl k) ?_
  show Goes p.tables e below (s₁.setTop (mkF m 22 #[.val (.ref oa), .val (.int (((0 : Int32) <<< ((8 : Int32) &&& 31)) ||| ((pg 0) &&& (255 : Int32)))), .val (.ref oa), .val (.int (3 : Int32)), .val (.int (1 : Int32)), .val (.int (pg 1))] [])) _
  refine Goes.by (fun _ k => XS.iloadN X0.here hx rfl (hb hby d1_22) rfl k) ?_
  show Goes p.tables e below (s₁.setTop (mkF m 23 #[.val (.ref oa), .val (.int (((0 : Int32) <<< ((8 : Int32) &&& 31)) ||| ((pg 0) &&& (255 : Int32)))), .val (.ref oa), .val (.int (3 : Int32)), .val (.int (1 : Int32)), .val (.int (pg 1))] [(.int (((0 : Int32) <<< ((8 : Int32) &&& 31)) ||| ((pg 0) &&& (255 : Int32))))])) _
  refine Goes.by (fun _ k => XS.bipush X0.here hx rfl (hb hby d1_23) k) ?_
  show Goes p.tables e below (s₁.setTop (mkF m 25 #[.val (.ref oa), .val (.int (((0 : Int32) <<< ((8 : Int32) &&& 31)) ||| ((pg 0) &&& (255 : Int32)))), .val (.ref oa), .val (.int (3 : Int32)), .val (.int (1 : Int32)), .val (.int (pg 1))] [(.int (8 : Int32)), (.int (((0 : Int32) <<< ((8 : Int32) &&& 31)) ||| ((pg 0) &&& (255 : Int32))))])) _
  refine Goes.by (fun _ k => XS.ishl X0.here hx rfl (hb hby d1_25) rfl k) ?_
  show Goes p.tables e below (s₁.setTop (mkF m 26 #[.val (.ref oa), .val (.int (((0 : Int32) <<< ((8 : Int32) &&& 31)) ||| ((pg 0) &&& (255 : Int32)))), .val (.ref oa), .val (.int (3 : Int32)), .val (.int (1 : Int32)), .val (.int (pg 1))] [(.int ((((0 : Int32) <<< ((8 : Int32) &&& 31)) ||| ((pg 0) &&& (255 : Int32))) <<< ((8 : Int32) &&& 31)))])) _
  refine Goes.by (fun _ k => XS.iload X0.here hx rfl (hb hby d1_26) rfl k) ?_
  show Goes p.tables e below (s₁.setTop (mkF m 28 #[.val (.ref oa), .val (.int (((0 : Int32) <<< ((8 : Int32) &&& 31)) ||| ((pg 0) &&& (255 : Int32)))), .val (.ref oa), .val (.int (3 : Int32)), .val (.int (1 : Int32)), .val (.int (pg 1))] [(.int (pg 1)), (.int ((((0 : Int32) <<< ((8 : Int32) &&& 31)) ||| ((pg 0) &&& (255 : Int32))) <<< ((8 : Int32) &&& 31)))])) _
  refine Goes.by (fun _ k => XS.sipush X0.here hx rfl (hb hby d1_28) k) ?_
  show Goes p.tables e below (s₁.setTop (mkF m 31 #[.val (.ref oa), .val (.int (((0 : Int32) <<< ((8 : Int32) &&& 31)) ||| ((pg 0) &&& (255 : Int32)))), .val (.ref oa), .val (.int (3 : Int32)), .val (.int (1 : Int32)), .val (.int (pg 1))] [(.int (255 : Int32)), (.int (pg 1)), (.int ((((0 : Int32) <<< ((8 : Int32) &&& 31)) ||| ((pg 0) &&& (255 : Int32))) <<< ((8 : Int32) &&& 31)))])) _
  refine Goes.by (fun _ k => XS.iand X0.here hx rfl (hb hby d1_31) rfl k) ?_
  show Goes p.tables e below (s₁.setTop (mkF m 32 #[.val (.ref oa), .val (.int (((0 : Int32) <<< ((8 : Int32) &&& 31)) ||| ((pg 0) &&& (255 : Int32)))), .val (.ref oa), .val (.int (3 : Int32)), .val (.int (1 : Int32)), .val (.int (pg 1))] [(.int ((pg 1) &&& (255 : Int32))), (.int ((((0 : Int32) <<< ((8 : Int32) &&& 31)) ||| ((pg 0) &&& (255 : Int32))) <<< ((8 : Int32) &&& 31)))])) _
  refine Goes.by (fun _ k => XS.ior X0.here hx rfl (hb hby d1_32) rfl k) ?_
  show Goes p.tables e below (s₁.setTop (mkF m 33 #[.val (.ref oa), .val (.int (((0 : Int32) <<< ((8 : Int32) &&& 31)) ||| ((pg 0) &&& (255 : Int32)))), .val (.ref oa), .val (.int (3 : Int32)), .val (.int (1 : Int32)), .val (.int (pg 1))] [(.int (((((0 : Int32) <<< ((8 : Int32) &&& 31)) ||| ((pg 0) &&& (255 : Int32))) <<< ((8 : Int32) &&& 31)) ||| ((pg 1) &&& (255 : Int32))))])) _
  refine Goes.by (fun _ k => XS.istoreN X0.here hx rfl (hb hby d1_33) rfl (l' := #[.val (.ref oa), .val (.int (((((0 : Int32) <<< ((8 : Int32) &&& 31)) ||| ((pg 0) &&& (255 : Int32))) <<< ((8 : Int32) &&& 31)) ||| ((pg 1) &&& (255 : Int32)))), .val (.ref oa), .val (.int (3 : Int32)), .val (.int (1 : Int32)), .val (.int (pg 1))]) rfl k) ?_
  show Goes p.tables e below (s₁.setTop (mkF m 34 #[.val (.ref oa), .val (.int (((((0 : Int32) <<< ((8 : Int32) &&& 31)) ||| ((pg 0) &&& (255 : Int32))) <<< ((8 : Int32) &&& 31)) ||| ((pg 1) &&& (255 : Int32)))), .val (.ref oa), .val (.int (3 : Int32)), .val (.int (1 : Int32)), .val (.int (pg 1))] [])) _
  refine Goes.by (fun _ k => XS.iinc X0.here hx rfl (hb hby d1_34) rfl (l' := #[.val (.ref oa), .val (.int (((((0 : Int32) <<< ((8 : Int32) &&& 31)) ||| ((pg 0) &&& (255 : Int32))) <<< ((8 : Int32) &&& 31)) ||| ((pg 1) &&& (255 : Int32)))), .val (.ref oa), .val (.int (3 : Int32)), .val (.int (2 : Int32)), .val (.int (pg 1))]) rfl k) ?_
  show Goes p.tables e below (s₁.setTop (mkF m 37 #[.val (.ref oa), .val (.int (((((0 : Int32) <<< ((8 : Int32) &&& 31)) ||| ((pg 0) &&& (255 : Int32))) <<< ((8 : Int32) &&& 31)) ||| ((pg 1) &&& (255 : Int32)))), .val (.ref oa), .val (.int (3 : Int32)), .val (.int (2 : Int32)), .val (.int (pg 1))] [])) _
  refine Goes.by (fun _ k => XS.goto X0.here hx rfl (pc0 := 37) (pc' := 10) rfl (hb hby d1_37) (by decide) (by decide) k) ?_
  show Goes p.tables e below (s₁.setTop (mkF m 10 #[.val (.ref oa), .val (.int (((((0 : Int32) <<< ((8 : Int32) &&& 31)) ||| ((pg 0) &&& (255 : Int32))) <<< ((8 : Int32) &&& 31)) ||| ((pg 1) &&& (255 : Int32)))), .val (.ref oa), .val (.int (3 : Int32)), .val (.int (2 : Int32)), .val (.int (pg 1))] [])) _
  refine Goes.by (fun _ k => XS.iload X0.here hx rfl (hb hby d1_10) rfl k) ?_
  show Goes p.tables e below (s₁.setTop (mkF m 12 #[.val (.ref oa), .val (.int (((((0 : Int32) <<< ((8 : Int32) &&& 31)) ||| ((pg 0) &&& (255 : Int32))) <<< ((8 : Int32) &&& 31)) ||| ((pg 1) &&& (255 : Int32)))), .val (.ref oa), .val (.int (3 : Int32)), .val (.int (2 : Int32)), .val (.int (pg 1))] [(.int (2 : Int32))])) _
  refine Goes.by (fun _ k => XS.iloadN X0.here hx rfl (hb hby d1_12) rfl k) ?_
  show Goes p.tables e below (s₁.setTop (mkF m 13 #[.val (.ref oa), .val (.int (((((0 : Int32) <<< ((8 : Int32) &&& 31)) ||| ((pg 0) &&& (255 : Int32))) <<< ((8 : Int32) &&& 31)) ||| ((pg 1) &&& (255 : Int32)))), .val (.ref oa), .val (.int (3 : Int32)), .val (.int (2 : Int32)), .val (.int (pg 1))] [(.int (3 : Int32)), (.int (2 : Int32))])) _
  refine Goes.by (fun _ k => XS.icmpNo X0.here hx rfl (hb hby d1_13) rfl (tlt (by decide : (2 : Int32) < (3 : Int32))).2.1 k) ?_
  show Goes p.tables e below (s₁.setTop (mkF m 16 #[.val (.ref oa), .val (.int (((((0 : Int32) <<< ((8 : Int32) &&& 31)) ||| ((pg 0) &&& (255 : Int32))) <<< ((8 : Int32) &&& 31)) ||| ((pg 1) &&& (255 : Int32)))), .val (.ref oa), .val (.int (3 : Int32)), .val (.int (2 : Int32)), .val (.int (pg 1))] [])) _
  refine Goes.by (fun _ k => XS.aloadN X0.here hx rfl (hb hby d1_16) rfl rfl k) ?_
  show Goes p.tables e below (s₁.setTop (mkF m 17 #[.val (.ref oa), .val (.int (((((0 : Int32) <<< ((8 : Int32) &&& 31)) ||| ((pg 0) &&& (255 : Int32))) <<< ((8 : Int32) &&& 31)) ||| ((pg 1) &&& (255 : Int32)))), .val (.ref oa), .val (.int (3 : Int32)), .val (.int (2 : Int32)), .val (.int (pg 1))] [(.ref oa)])) _
  refine Goes.by (fun _ k => XS.iload X0.here hx rfl (hb hby d1_17) rfl k) ?_
  show Goes p.tables e below (s₁.setTop (mkF m 19 #[.val (.ref oa), .val (.int (((((0 : Int32) <<< ((8 : Int32) &&& 31)) ||| ((pg 0) &&& (255 : Int32))) <<< ((8 : Int32) &&& 31)) ||| ((pg 1) &&& (255 : Int32)))), .val (.ref oa), .val (.int (3 : Int32)), .val (.int (2 : Int32)), .val (.int (pg 1))] [(.int (2 : Int32)), (.ref oa)])) _
  refine Goes.by (fun _ k => ldB (v := (pg 2)) (fr := (mkF m 19 #[.val (.ref oa), .val (.int (((((0 : Int32) <<< ((8 : Int32) &&& 31)) ||| ((pg 0) &&& (255 : Int32))) <<< ((8 : Int32) &&& 31)) ||| ((pg 1) &&& (255 : Int32)))), .val (.ref oa), .val (.int (3 : Int32)), .val (.int (2 : Int32)), .val (.int (pg 1))] [(.int (2 : Int32)), (.ref oa)])) X0 hx hZ e0 A_oa (i := 2) (by decide) (by decide) rfl rfl rfl (hb hby d1_19) k) ?_
  show Goes p.tables e below (s₁.setTop (mkF m 20 #[.val (.ref oa), .val (.int (((((0 : Int32) <<< ((8 : Int32) &&& 31)) ||| ((pg 0) &&& (255 : Int32))) <<< ((8 : Int32) &&& 31)) ||| ((pg 1) &&& (255 : Int32)))), .val (.ref oa), .val (.int (3 : Int32)), .val (.int (2 : Int32)), .val (.int (pg 1))] [(.int (pg 2))])) _
  refine Goes.by (fun _ k => XS.istore X0.here hx rfl (hb hby d1_20) rfl (l' := #[.val (.ref oa), .val (.int (((((0 : Int32) <<< ((8 : Int32) &&& 31)) ||| ((pg 0) &&& (255 : Int32))) <<< ((8 : Int32) &&& 31)) ||| ((pg 1) &&& (255 : Int32)))), .val (.ref oa), .val (.int (3 : Int32)), .val (.int (2 : Int32)), .val (.int (pg 2))]) rfl k) ?_
  show Goes p.tables e below (s₁.setTop (mkF m 22 #[.val (.ref oa), .val (.int (((((0 : Int32) <<< ((8 : Int32) &&& 31)) ||| ((pg 0) &&& (255 : Int32))) <<< ((8 : Int32) &&& 31)) ||| ((pg 1) &&& (255 : Int32)))), .val (.ref oa), .val (.int (3 : Int32)), .val (.int (2 : Int32)), .val (.int (pg 2))] [])) _
  refine Goes.by (fun _ k => XS.iloadN X0.here hx rfl (hb hby d1_22) rfl k) ?_
  show Goes p.tables e below (s₁.setTop (mkF m 23 #[.val (.ref oa), .val (.int (((((0 : Int32) <<< ((8 : Int32) &&& 31)) ||| ((pg 0) &&& (255 : Int32))) <<< ((8 : Int32) &&& 31)) ||| ((pg 1) &&& (255 : Int32)))), .val (.ref oa), .val (.int (3 : Int32)), .val (.int (2 : Int32)), .val (.int (pg 2))] [(.int (((((0 : Int32) <<< ((8 : Int32) &&& 31)) ||| ((pg 0) &&& (255 : Int32))) <<< ((8 : Int32) &&& 31)) ||| ((pg 1) &&& (255 : Int32))))])) _
  refine Goes.by (fun _ k => XS.bipush X0.here hx rfl (hb hby d1_23) k) ?_
  show Goes p.tables e below (s₁.setTop (mkF m 25 #[.val (.ref oa), .val (.int (((((0 : Int32) <<< ((8 : Int32) &&& 31)) ||| ((pg 0) &&& (255 : Int32))) <<< ((8 : Int32) &&& 31)) ||| ((pg 1) &&& (255 : Int32)))), .val (.ref oa), .val (.int (3 : Int32)), .val (.int (2 : Int32)), .val (.int (pg 2))] [(.int (8 : Int32)), (.int (((((0 : Int32) <<< ((8 : Int32) &&& 31)) ||| ((pg 0) &&& (255 : Int32))) <<< ((8 : Int32) &&& 31)) ||| ((pg 1) &&& (255 : Int32))))])) _
  refine Goes.by (fun _ k => XS.ishl X0.here hx rfl (hb hby d1_25) rfl k) ?_
  show Goes p.tables e below (s₁.setTop (mkF m 26 #[.val (.ref oa), .val (.int (((((0 : Int32) <<< ((8 : Int32) &&& 31)) ||| ((pg 0) &&& (255 : Int32))) <<< ((8 : Int32) &&& 31)) ||| ((pg 1) &&& (255 : Int32)))), .val (.ref oa), .val (.int (3 : Int32)), .val (.int (2 : Int32)), .val (.int (pg 2))] [(.int ((((((0 : Int32) <<< ((8 : Int32) &&& 31)) ||| ((pg 0) &&& (255 : Int32))) <<< ((8 : Int32) &&& 31)) ||| ((pg 1) &&& (255 : Int32))) <<< ((8 : Int32) &&& 31)))])) _
  refine Goes.by (fun _ k => XS.iload X0.here hx rfl (hb hby d1_26) rfl k) ?_
  show Goes p.tables e below (s₁.setTop (mkF m 28 #[.val (.ref oa), .val (.int (((((0 : Int32) <<< ((8 : Int32) &&& 31)) ||| ((pg 0) &&& (255 : Int32))) <<< ((8 : Int32) &&& 31)) ||| ((pg 1) &&& (255 : Int32)))), .val (.ref oa), .val (.int (3 : Int32)), .val (.int (2 : Int32)), .val (.int (pg 2))] [(.int (pg 2)), (.int ((((((0 : Int32) <<< ((8 : Int32) &&& 31)) ||| ((pg 0) &&& (255 : Int32))) <<< ((8 : Int32) &&& 31)) ||| ((pg 1) &&& (255 : Int32))) <<< ((8 : Int32) &&& 31)))])) _
  refine Goes.by (fun _ k => XS.sipush X0.here hx rfl (hb hby d1_28) k) ?_
  show Goes p.tables e below (s₁.setTop (mkF m 31 #[.val (.ref oa), .val (.int (((((0 : Int32) <<< ((8 : Int32) &&& 31)) ||| ((pg 0) &&& (255 : Int32))) <<< ((8 : Int32) &&& 31)) ||| ((pg 1) &&& (255 : Int32)))), .val (.ref oa), .val (.int (3 : Int32)), .val (.int (2 : Int32)), .val (.int (pg 2))] [(.int (255 : Int32)), (.int (pg 2)), (.int ((((((0 : Int32) <<< ((8 : Int32) &&& 31)) ||| ((pg 0) &&& (255 : Int32))) <<< ((8 : Int32) &&& 31)) ||| ((pg 1) &&& (255 : Int32))) <<< ((8 : Int32) &&& 31)))])) _
  refine Goes.by (fun _ k => XS.iand X0.here hx rfl (hb hby d1_31) rfl k) ?_
  show Goes p.tables e below (s₁.setTop (mkF m 32 #[.val (.ref oa), .val (.int (((((0 : Int32) <<< ((8 : Int32) &&& 31)) ||| ((pg 0) &&& (255 : Int32))) <<< ((8 : Int32) &&& 31)) ||| ((pg 1) &&& (255 : Int32)))), .val (.ref oa), .val (.int (3 : Int32)), .val (.int (2 : Int32)), .val (.int (pg 2))] [(.int ((pg 2) &&& (255 : Int32))), (.int ((((((0 : Int32) <<< ((8 : Int32) &&& 31)) ||| ((pg 0) &&& (255 : Int32))) <<< ((8 : Int32) &&& 31)) ||| ((pg 1) &&& (255 : Int32))) <<< ((8 : Int32) &&& 31)))])) _
  refine Goes.by (fun _ k => XS.ior X0.here hx rfl (hb hby d1_32) rfl k) ?_
  show Goes p.tables e below (s₁.setTop (mkF m 33 #[.val (.ref oa), .val (.int (((((0 : Int32) <<< ((8 : Int32) &&& 31)) ||| ((pg 0) &&& (255 : Int32))) <<< ((8 : Int32) &&& 31)) ||| ((pg 1) &&& (255 : Int32)))), .val (.ref oa), .val (.int (3 : Int32)), .val (.int (2 : Int32)), .val (.int (pg 2))] [(.int (((((((0 : Int32) <<< ((8 : Int32) &&& 31)) ||| ((pg 0) &&& (255 : Int32))) <<< ((8 : Int32) &&& 31)) ||| ((pg 1) &&& (255 : Int32))) <<< ((8 : Int32) &&& 31)) ||| ((pg 2) &&& (255 : Int32))))])) _
  refine Goes.by (fun _ k => XS.istoreN X0.here hx rfl (hb hby d1_33) rfl (l' := #[.val (.ref oa), .val (.int (((((((0 : Int32) <<< ((8 : Int32) &&& 31)) ||| ((pg 0) &&& (255 : Int32))) <<< ((8 : Int32) &&& 31)) ||| ((pg 1) &&& (255 : Int32))) <<< ((8 : Int32) &&& 31)) ||| ((pg 2) &&& (255 : Int32)))), .val (.ref oa), .val (.int (3 : Int32)), .val (.int (2 : Int32)), .val (.int (pg 2))]) rfl k) ?_
  show Goes p.tables e below (s₁.setTop (mkF m 34 #[.val (.ref oa), .val (.int (((((((0 : Int32) <<< ((8 : Int32) &&& 31)) ||| ((pg 0) &&& (255 : Int32))) <<< ((8 : Int32) &&& 31)) ||| ((pg 1) &&& (255 : Int32))) <<< ((8 : Int32) &&& 31)) ||| ((pg 2) &&& (255 : Int32)))), .val (.ref oa), .val (.int (3 : Int32)), .val (.int (2 : Int32)), .val (.int (pg 2))] [])) _
  refine Goes.by (fun _ k => XS.iinc X0.here hx rfl (hb hby d1_34) rfl (l' := #[.val (.ref oa), .val (.int (((((((0 : Int32) <<< ((8 : Int32) &&& 31)) ||| ((pg 0) &&& (255 : Int32))) <<< ((8 : Int32) &&& 31)) ||| ((pg 1) &&& (255 : Int32))) <<< ((8 : Int32) &&& 31)) ||| ((pg 2) &&& (255 : Int32)))), .val (.ref oa), .val (.int (3 : Int32)), .val (.int (3 : Int32)), .val (.int (pg 2))]) rfl k) ?_
  show Goes p.tables e below (s₁.setTop (mkF m 37 #[.val (.ref oa), .val (.int (((((((0 : Int32) <<< ((8 : Int32) &&& 31)) ||| ((pg 0) &&& (255 : Int32))) <<< ((8 : Int32) &&& 31)) ||| ((pg 1) &&& (255 : Int32))) <<< ((8 : Int32) &&& 31)) ||| ((pg 2) &&& (255 : Int32)))), .val (.ref oa), .val (.int (3 : Int32)), .val (.int (3 : Int32)), .val (.int (pg 2))] [])) _
  refine Goes.by (fun _ k => XS.goto X0.here hx rfl (pc0 := 37) (pc' := 10) rfl (hb hby d1_37) (by decide) (by decide) k) ?_
  show Goes p.tables e below (s₁.setTop (mkF m 10 #[.val (.ref oa), .val (.int (((((((0 : Int32) <<< ((8 : Int32) &&& 31)) ||| ((pg 0) &&& (255 : Int32))) <<< ((8 : Int32) &&& 31)) ||| ((pg 1) &&& (255 : Int32))) <<< ((8 : Int32) &&& 31)) ||| ((pg 2) &&& (255 : Int32)))), .val (.ref oa), .val (.int (3 : Int32)), .val (.int (3 : Int32)), .val (.int (pg 2))] [])) _
  refine Goes.by (fun _ k => XS.iload X0.here hx rfl (hb hby d1_10) rfl k) ?_
  show Goes p.tables e below (s₁.setTop (mkF m 12 #[.val (.ref oa), .val (.int (((((((0 : Int32) <<< ((8 : Int32) &&& 31)) ||| ((pg 0) &&& (255 : Int32))) <<< ((8 : Int32) &&& 31)) ||| ((pg 1) &&& (255 : Int32))) <<< ((8 : Int32) &&& 31)) ||| ((pg 2) &&& (255 : Int32)))), .val (.ref oa), .val (.int (3 : Int32)), .val (.int (3 : Int32)), .val (.int (pg 2))] [(.int (3 : Int32))])) _
  refine Goes.by (fun _ k => XS.iloadN X0.here hx rfl (hb hby d1_12) rfl k) ?_
  show Goes p.tables e below (s₁.setTop (mkF m 13 #[.val (.ref oa), .val (.int (((((((0 : Int32) <<< ((8 : Int32) &&& 31)) ||| ((pg 0) &&& (255 : Int32))) <<< ((8 : Int32) &&& 31)) ||| ((pg 1) &&& (255 : Int32))) <<< ((8 : Int32) &&& 31)) ||| ((pg 2) &&& (255 : Int32)))), .val (.ref oa), .val (.int (3 : Int32)), .val (.int (3 : Int32)), .val (.int (pg 2))] [(.int (3 : Int32)), (.int (3 : Int32))])) _
  refine Goes.by (fun _ k => XS.icmpYes X0.here hx rfl (pc0 := 13) (pc' := 40) rfl (hb hby d1_13) rfl (flt (by decide : ¬ ((3 : Int32) < (3 : Int32)))).2.1 (by decide) (by decide) k) ?_
  show Goes p.tables e below (s₁.setTop (mkF m 40 #[.val (.ref oa), .val (.int (((((((0 : Int32) <<< ((8 : Int32) &&& 31)) ||| ((pg 0) &&& (255 : Int32))) <<< ((8 : Int32) &&& 31)) ||| ((pg 1) &&& (255 : Int32))) <<< ((8 : Int32) &&& 31)) ||| ((pg 2) &&& (255 : Int32)))), .val (.ref oa), .val (.int (3 : Int32)), .val (.int (3 : Int32)), .val (.int (pg 2))] [])) _
  refine Goes.by (fun _ k => XS.iloadN X0.here hx rfl (hb hby d1_40) rfl k) ?_
  show Goes p.tables e below (s₁.setTop (mkF m 41 #[.val (.ref oa), .val (.int (((((((0 : Int32) <<< ((8 : Int32) &&& 31)) ||| ((pg 0) &&& (255 : Int32))) <<< ((8 : Int32) &&& 31)) ||| ((pg 1) &&& (255 : Int32))) <<< ((8 : Int32) &&& 31)) ||| ((pg 2) &&& (255 : Int32)))), .val (.ref oa), .val (.int (3 : Int32)), .val (.int (3 : Int32)), .val (.int (pg 2))] [(.int (((((((0 : Int32) <<< ((8 : Int32) &&& 31)) ||| ((pg 0) &&& (255 : Int32))) <<< ((8 : Int32) &&& 31)) ||| ((pg 1) &&& (255 : Int32))) <<< ((8 : Int32) &&& 31)) ||| ((pg 2) &&& (255 : Int32))))])) _
  obtain ⟨fs, hr, hrun, hended, hW, hsame⟩ := X0.leave (v := some (.int (((((((0 : Int32) <<< ((8 : Int32) &&& 31)) ||| ((pg 0) &&& (255 : Int32))) <<< ((8 : Int32) &&& 31)) ||| ((pg 1) &&& (255 : Int32))) <<< ((8 : Int32) &&& 31)) ||| ((pg 2) &&& (255 : Int32))))) (fun h => by rw [Bd.returns] at h; cases h)
  refine ⟨_, _, retI X0 hx Bd.returns (hb hby d1_41) hr, hrun, hended, _, _, rfl, ?_, ⟨_, rfl⟩, hW, hsame.mono (by decide) (by decide)⟩
  show Q1n3 Z oa pg h0 n0 _ s₁.heap _
  rw [e0]
  exact ⟨rfl, N0, rfl⟩
theorem ef1n4 (m : MethodId) (oa : Addr) : entryFrame m #[(.ref oa)] 6 = mkF m 0 #[.val (.ref oa), .unset, .unset, .unset, .unset, .unset] [] := by first | (simp [entryFrame, mkF, argsToLocals, Value.category]; done) | rfl
def Q1n4 (Z : State) (oa : Addr) (pg : Nat → Int32) (h0 : Heap) (n0 : Nat) (v : Option Value) (h : Heap) (L : List Loc) : Prop := v = some (.int (((((((((0 : Int32) <<< ((8 : Int32) &&& 31)) ||| ((pg 0) &&& (255 : Int32))) <<< ((8 : Int32) &&& 31)) ||| ((pg 1) &&& (255 : Int32))) <<< ((8 : Int32) &&& 31)) ||| ((pg 2) &&& (255 : Int32))) <<< ((8 : Int32) &&& 31)) ||| ((pg 3) &&& (255 : Int32)))) ∧ Fr n0 L ∧ h = h0
set_option maxRecDepth 65536 in
set_option maxHeartbeats 40000000 in
theorem rm1n4 (l : Launch) (Z : State) (a0 : Array Value) (hw : ∀ d ∈ tables_1, d.before a0 Z = true) (ws : List Jvm.Cond) (oa : Addr) (pg : Nat → Int32) (h0 : Heap) (n0 : Nat) (Z0 : n0 ≤ h0.size) (A_oa : AI Z h0 oa .byte 4 pg) :
    MetFree l (⟨"castkey/card/ModeObjects", "number", "([B)I"⟩ : MethodName) (head1 (Jvm.Cond.code (⟨"castkey/card/ModeObjects", "number", "([B)I"⟩ : MethodName) prog_16_method_5_code 6 (some .int) :: ws) ({ frames := 0, cells := 0, slots := 0, locals := 0 } : Room)) (fun a U => a = #[(.ref oa)] ∧ Z.Warmed39 U.vm ∧ U.heap = h0) (fun _ _ _ _ _ => True) (fun _ U o U' => ∃ v L, o = .returned v ∧ Q1n4 Z oa pg h0 n0 v U'.heap L ∧ FrameEnd U o U' L ({ frames := 0, cells := 0, slots := 0, locals := 0 } : Room).cells ({ frames := 0, cells := 0, slots := 0, locals := 0 } : Room).slots) := by
  refine MetFree.of_bodySF (plainFor_of_name pn_0) hisR ?_
  intro p e s m args below meth c s₁ Bd hml0 hP hK
  obtain ⟨rfl, hZ, hh⟩ := hP
  have hx := Bd.exec
  have hby := Bd.bytes
  have hml : c.maxLocals = 6 := hml0
  have hown : s.vm.findClass "castkey/card/ModeObjects" = some m.cls := findClass_of_methodNamed Bd.named
  have hnm := (name_of_methodNamed Bd.named Bd.method).1
  have X0 : Stand p l e ({ frames := 0, cells := 0, slots := 0, locals := 0 } : Room) s m #[(.ref oa)] below meth c s₁ [] 0 0 := Stand.of_body Bd
  have e0 : s₁.heap = h0 := by rw [← hh, Bd.state]; rfl
  have N0 := Fr.nil n0
  refine Goes.by (fun _ k => castTop (ef1n4 m oa) k) ?_
  show Goes p.tables e below (s₁.setTop (mkF m 0 #[.val (.ref oa), .unset, .unset, .unset, .unset, .unset] [])) _
  refine Goes.by (fun _ k => XS.iconst X0.here hx rfl (hb hby d1_0) k) ?_
  show Goes p.tables e below (s₁.setTop (mkF m 1 #[.val (.ref oa), .unset, .unset, .unset, .unset, .unset] [(.int (0 : Int32))])) _
  refine Goes.by (fun _ k => XS.istoreN X0.here hx rfl (hb hby d1_1) rfl (l' := #[.val (.ref oa), .val (.int (0 : Int32)), .unset, .unset, .unset, .unset]) rfl k) ?_
  show Goes p.tables e below (s₁.setTop (mkF m 2 #[.val (.ref oa), .val (.int (0 : Int32)), .unset, .unset, .unset, .unset] [])) _
  refine Goes.by (fun _ k => XS.aloadN X0.here hx rfl (hb hby d1_2) rfl rfl k) ?_
  show Goes p.tables e below (s₁.setTop (mkF m 3 #[.val (.ref oa), .val (.int (0 : Int32)), .unset, .unset, .unset, .unset] [(.ref oa)])) _
  refine Goes.by (fun _ k => XS.astoreN X0.here hx rfl (hb hby d1_3) rfl rfl (l' := #[.val (.ref oa), .val (.int (0 : Int32)), .val (.ref oa), .unset, .unset, .unset]) rfl k) ?_
  show Goes p.tables e below (s₁.setTop (mkF m 4 #[.val (.ref oa), .val (.int (0 : Int32)), .val (.ref oa), .unset, .unset, .unset] [])) _
  refine Goes.by (fun _ k => XS.aloadN X0.here hx rfl (hb hby d1_4) rfl rfl k) ?_
  show Goes p.tables e below (s₁.setTop (mkF m 5 #[.val (.ref oa), .val (.int (0 : Int32)), .val (.ref oa), .unset, .unset, .unset] [(.ref oa)])) _
  refine Goes.by (fun _ k => alen (z := (4 : Int32)) (fr := (mkF m 5 #[.val (.ref oa), .val (.int (0 : Int32)), .val (.ref oa), .unset, .unset, .unset] [(.ref oa)])) X0 hx hZ e0 A_oa (by decide) rfl rfl (hb hby d1_5) k) ?_
  show Goes p.tables e below (s₁.setTop (mkF m 6 #[.val (.ref oa), .val (.int (0 : Int32)), .val (.ref oa), .unset, .unset, .unset] [(.int (4 : Int32))])) _
  refine Goes.by (fun _ k => XS.istoreN X0.here hx rfl (hb hby d1_6) rfl (l' := #[.val (.ref oa), .val (.int (0 : Int32)), .val (.ref oa), .val (.int (4 : Int32)), .unset, .unset]) rfl k) ?_
  show Goes p.tables e below (s₁.setTop (mkF m 7 #[.val (.ref oa), .val (.int (0 : Int32)), .val (.ref oa), .val (.int (4 : Int32)), .unset, .unset] [])) _
  refine Goes.by (fun _ k => XS.iconst X0.here hx rfl (hb hby d1_7) k) ?_
  show Goes p.tables e below (s₁.setTop (mkF m 8 #[.val (.ref oa), .val (.int (0 : Int32)), .val (.ref oa), .val (.int (4 : Int32)), .unset, .unset] [(.int (0 : Int32))])) _
  refine Goes.by (fun _ k => XS.istore X0.here hx rfl (hb hby d1_8) rfl (l' := #[.val (.ref oa), .val (.int (0 : Int32)), .val (.ref oa), .val (.int (4 : Int32)), .val (.int (0 : Int32)), .unset]) rfl k) ?_
  show Goes p.tables e below (s₁.setTop (mkF m 10 #[.val (.ref oa), .val (.int (0 : Int32)), .val (.ref oa), .val (.int (4 : Int32)), .val (.int (0 : Int32)), .unset] [])) _
  refine Goes.by (fun _ k => XS.iload X0.here hx rfl (hb hby d1_10) rfl k) ?_
  show Goes p.tables e below (s₁.setTop (mkF m 12 #[.val (.ref oa), .val (.int (0 : Int32)), .val (.ref oa), .val (.int (4 : Int32)), .val (.int (0 : Int32)), .unset] [(.int (0 : Int32))])) _
  refine Goes.by (fun _ k => XS.iloadN X0.here hx rfl (hb hby d1_12) rfl k) ?_
  show Goes p.tables e below (s₁.setTop (mkF m 13 #[.val (.ref oa), .val (.int (0 : Int32)), .val (.ref oa), .val (.int (4 : Int32)), .val (.int (0 : Int32)), .unset] [(.int (4 : Int32)), (.int (0 : Int32))])) _
  refine Goes.by (fun _ k => XS.icmpNo X0.here hx rfl (hb hby d1_13) rfl (tlt (by decide : (0 : Int32) < (4 : Int32))).2.1 k) ?_
  show Goes p.tables e below (s₁.setTop (mkF m 16 #[.val (.ref oa), .val (.int (0 : Int32)), .val (.ref oa), .val (.int (4 : Int32)), .val (.int (0 : Int32)), .unset] [])) _
  refine Goes.by (fun _ k => XS.aloadN X0.here hx rfl (hb hby d1_16) rfl rfl k) ?_
  show Goes p.tables e below (s₁.setTop (mkF m 17 #[.val (.ref oa), .val (.int (0 : Int32)), .val (.ref oa), .val (.int (4 : Int32)), .val (.int (0 : Int32)), .unset] [(.ref oa)])) _
  refine Goes.by (fun _ k => XS.iload X0.here hx rfl (hb hby d1_17) rfl k) ?_
  show Goes p.tables e below (s₁.setTop (mkF m 19 #[.val (.ref oa), .val (.int (0 : Int32)), .val (.ref oa), .val (.int (4 : Int32)), .val (.int (0 : Int32)), .unset] [(.int (0 : Int32)), (.ref oa)])) _
  refine Goes.by (fun _ k => ldB (v := (pg 0)) (fr := (mkF m 19 #[.val (.ref oa), .val (.int (0 : Int32)), .val (.ref oa), .val (.int (4 : Int32)), .val (.int (0 : Int32)), .unset] [(.int (0 : Int32)), (.ref oa)])) X0 hx hZ e0 A_oa (i := 0) (by decide) (by decide) rfl rfl rfl (hb hby d1_19) k) ?_
  show Goes p.tables e below (s₁.setTop (mkF m 20 #[.val (.ref oa), .val (.int (0 : Int32)), .val (.ref oa), .val (.int (4 : Int32)), .val (.int (0 : Int32)), .unset] [(.int (pg 0))])) _
  refine Goes.by (fun _ k => XS.istore X0.here hx rfl (hb hby d1_20) rfl (l' := #[.val (.ref oa), .val (.int (0 : Int32)), .val (.ref oa), .val (.int (4 : Int32)), .val (.int (0 : Int32)), .val (.int (pg 0))]) rfl k) ?_
  show Goes p.tables e below (s₁.setTop (mkF m 22 #[.val (.ref oa), .val (.int (0 : Int32)), .val (.ref oa), .val (.int (4 : Int32)), .val (.int (0 : Int32)), .val (.int (pg 0))] [])) _
  refine Goes.by (fun _ k => XS.iloadN X0.here hx rfl (hb hby d1_22) rfl k) ?_
  show Goes p.tables e below (s₁.setTop (mkF m 23 #[.val (.ref oa), .val (.int (0 : Int32)), .val (.ref oa), .val (.int (4 : Int32)), .val (.int (0 : Int32)), .val (.int (pg 0))] [(.int (0 : Int32))])) _
  refine Goes.by (fun _ k => XS.bipush X0.here hx rfl (hb hby d1_23) k) ?_
  show Goes p.tables e below (s₁.setTop (mkF m 25 #[.val (.ref oa), .val (.int (0 : Int32)), .val (.ref oa), .val (.int (4 : Int32)), .val (.int (0 : Int32)), .val (.int (pg 0))] [(.int (8 : Int32)), (.int (0 : Int32))])) _
  refine Goes.by (fun _ k => XS.ishl X0.here hx rfl (hb hby d1_25) rfl k) ?_
  show Goes p.tables e below (s₁.setTop (mkF m 26 #[.val (.ref oa), .val (.int (0 : Int32)), .val (.ref oa), .val (.int (4 : Int32)), .val (.int (0 : Int32)), .val (.int (pg 0))] [(.int ((0 : Int32) <<< ((8 : Int32) &&& 31)))])) _
  refine Goes.by (fun _ k => XS.iload X0.here hx rfl (hb hby d1_26) rfl k) ?_
  show Goes p.tables e below (s₁.setTop (mkF m 28 #[.val (.ref oa), .val (.int (0 : Int32)), .val (.ref oa), .val (.int (4 : Int32)), .val (.int (0 : Int32)), .val (.int (pg 0))] [(.int (pg 0)), (.int ((0 : Int32) <<< ((8 : Int32) &&& 31)))])) _
  refine Goes.by (fun _ k => XS.sipush X0.here hx rfl (hb hby d1_28) k) ?_
  show Goes p.tables e below (s₁.setTop (mkF m 31 #[.val (.ref oa), .val (.int (0 : Int32)), .val (.ref oa), .val (.int (4 : Int32)), .val (.int (0 : Int32)), .val (.int (pg 0))] [(.int (255 : Int32)), (.int (pg 0)), (.int ((0 : Int32) <<< ((8 : Int32) &&& 31)))])) _
  refine Goes.by (fun _ k => XS.iand X0.here hx rfl (hb hby d1_31) rfl k) ?_
  show Goes p.tables e below (s₁.setTop (mkF m 32 #[.val (.ref oa), .val (.int (0 : Int32)), .val (.ref oa), .val (.int (4 : Int32)), .val (.int (0 : Int32)), .val (.int (pg 0))] [(.int ((pg 0) &&& (255 : Int32))), (.int ((0 : Int32) <<< ((8 : Int32) &&& 31)))])) _
  refine Goes.by (fun _ k => XS.ior X0.here hx rfl (hb hby d1_32) rfl k) ?_
  show Goes p.tables e below (s₁.setTop (mkF m 33 #[.val (.ref oa), .val (.int (0 : Int32)), .val (.ref oa), .val (.int (4 : Int32)), .val (.int (0 : Int32)), .val (.int (pg 0))] [(.int (((0 : Int32) <<< ((8 : Int32) &&& 31)) ||| ((pg 0) &&& (255 : Int32))))])) _
  refine Goes.by (fun _ k => XS.istoreN X0.here hx rfl (hb hby d1_33) rfl (l' := #[.val (.ref oa), .val (.int (((0 : Int32) <<< ((8 : Int32) &&& 31)) ||| ((pg 0) &&& (255 : Int32)))), .val (.ref oa), .val (.int (4 : Int32)), .val (.int (0 : Int32)), .val (.int (pg 0))]) rfl k) ?_
  show Goes p.tables e below (s₁.setTop (mkF m 34 #[.val (.ref oa), .val (.int (((0 : Int32) <<< ((8 : Int32) &&& 31)) ||| ((pg 0) &&& (255 : Int32)))), .val (.ref oa), .val (.int (4 : Int32)), .val (.int (0 : Int32)), .val (.int (pg 0))] [])) _
  refine Goes.by (fun _ k => XS.iinc X0.here hx rfl (hb hby d1_34) rfl (l' := #[.val (.ref oa), .val (.int (((0 : Int32) <<< ((8 : Int32) &&& 31)) ||| ((pg 0) &&& (255 : Int32)))), .val (.ref oa), .val (.int (4 : Int32)), .val (.int (1 : Int32)), .val (.int (pg 0))]) rfl k) ?_
  show Goes p.tables e below (s₁.setTop (mkF m 37 #[.val (.ref oa), .val (.int (((0 : Int32) <<< ((8 : Int32) &&& 31)) ||| ((pg 0) &&& (255 : Int32)))), .val (.ref oa), .val (.int (4 : Int32)), .val (.int (1 : Int32)), .val (.int (pg 0))] [])) _
  refine Goes.by (fun _ k => XS.goto X0.here hx rfl (pc0 := 37) (pc' := 10) rfl (hb hby d1_37) (by decide) (by decide) k) ?_
  show Goes p.tables e below (s₁.setTop (mkF m 10 #[.val (.ref oa), .val (.int (((0 : Int32) <<< ((8 : Int32) &&& 31)) ||| ((pg 0) &&& (255 : Int32)))), .val (.ref oa), .val (.int (4 : Int32)), .val (.int (1 : Int32)), .val (.int (pg 0))] [])) _
  refine Goes.by (fun _ k => XS.iload X0.here hx rfl (hb hby d1_10) rfl k) ?_
  show Goes p.tables e below (s₁.setTop (mkF m 12 #[.val (.ref oa), .val (.int (((0 : Int32) <<< ((8 : Int32) &&& 31)) ||| ((pg 0) &&& (255 : Int32)))), .val (.ref oa), .val (.int (4 : Int32)), .val (.int (1 : Int32)), .val (.int (pg 0))] [(.int (1 : Int32))])) _
  refine Goes.by (fun _ k => XS.iloadN X0.here hx rfl (hb hby d1_12) rfl k) ?_
  show Goes p.tables e below (s₁.setTop (mkF m 13 #[.val (.ref oa), .val (.int (((0 : Int32) <<< ((8 : Int32) &&& 31)) ||| ((pg 0) &&& (255 : Int32)))), .val (.ref oa), .val (.int (4 : Int32)), .val (.int (1 : Int32)), .val (.int (pg 0))] [(.int (4 : Int32)), (.int (1 : Int32))])) _
  refine Goes.by (fun _ k => XS.icmpNo X0.here hx rfl (hb hby d1_13) rfl (tlt (by decide : (1 : Int32) < (4 : Int32))).2.1 k) ?_
  show Goes p.tables e below (s₁.setTop (mkF m 16 #[.val (.ref oa), .val (.int (((0 : Int32) <<< ((8 : Int32) &&& 31)) ||| ((pg 0) &&& (255 : Int32)))), .val (.ref oa), .val (.int (4 : Int32)), .val (.int (1 : Int32)), .val (.int (pg 0))] [])) _
  refine Goes.by (fun _ k => XS.aloadN X0.here hx rfl (hb hby d1_16) rfl rfl k) ?_
  show Goes p.tables e below (s₁.setTop (mkF m 17 #[.val (.ref oa), .val (.int (((0 : Int32) <<< ((8 : Int32) &&& 31)) ||| ((pg 0) &&& (255 : Int32)))), .val (.ref oa), .val (.int (4 : Int32)), .val (.int (1 : Int32)), .val (.int (pg 0))] [(.ref oa)])) _
  refine Goes.by (fun _ k => XS.iload X0.here hx rfl (hb hby d1_17) rfl k) ?_
  show Goes p.tables e below (s₁.setTop (mkF m 19 #[.val (.ref oa), .val (.int (((0 : Int32) <<< ((8 : Int32) &&& 31)) ||| ((pg 0) &&& (255 : Int32)))), .val (.ref oa), .val (.int (4 : Int32)), .val (.int (1 : Int32)), .val (.int (pg 0))] [(.int (1 : Int32)), (.ref oa)])) _
  refine Goes.by (fun _ k => ldB (v := (pg 1)) (fr := (mkF m 19 #[.val (.ref oa), .val (.int (((0 : Int32) <<< ((8 : Int32) &&& 31)) ||| ((pg 0) &&& (255 : Int32)))), .val (.ref oa), .val (.int (4 : Int32)), .val (.int (1 : Int32)), .val (.int (pg 0))] [(.int (1 : Int32)), (.ref oa)])) X0 hx hZ e0 A_oa (i := 1) (by decide) (by decide) rfl rfl rfl (hb hby d1_19) k) ?_
  show Goes p.tables e below (s₁.setTop (mkF m 20 #[.val (.ref oa), .val (.int (((0 : Int32) <<< ((8 : Int32) &&& 31)) ||| ((pg 0) &&& (255 : Int32)))), .val (.ref oa), .val (.int (4 : Int32)), .val (.int (1 : Int32)), .val (.int (pg 0))] [(.int (pg 1))])) _
  refine Goes.by (fun _ k => XS.istore X0.here hx rfl (hb hby d1_20) rfl (l' := #[.val (.ref oa), .val (.int (((0 : Int32) <<< ((8 : Int32) &&& 31)) ||| ((pg 0) &&& (255 : Int32)))), .val (.ref oa), .val (.int (4 : Int32)), .val (.int (1 : Int32)), .val (.int (pg 1))]) rfl k) ?_
  show Goes p.tables e below (s₁.setTop (mkF m 22 #[.val (.ref oa), .val (.int (((0 : Int32) <<< ((8 : Int32) &&& 31)) ||| ((pg 0) &&& (255 : Int32)))), .val (.ref oa), .val (.int (4 : Int32)), .val (.int (1 : Int32)), .val (.int (pg 1))] [])) _
  refine Goes.by (fun _ k => XS.iloadN X0.here hx rfl (hb hby d1_22) rfl k) ?_
  show Goes p.tables e below (s₁.setTop (mkF m 23 #[.val (.ref oa), .val (.int (((0 : Int32) <<< ((8 : Int32) &&& 31)) ||| ((pg 0) &&& (255 : Int32)))), .val (.ref oa), .val (.int (4 : Int32)), .val (.int (1 : Int32)), .val (.int (pg 1))] [(.int (((0 : Int32) <<< ((8 : Int32) &&& 31)) ||| ((pg 0) &&& (255 : Int32))))])) _
  refine Goes.by (fun _ k => XS.bipush X0.here hx rfl (hb hby d1_23) k) ?_
  show Goes p.tables e below (s₁.setTop (mkF m 25 #[.val (.ref oa), .val (.int (((0 : Int32) <<< ((8 : Int32) &&& 31)) ||| ((pg 0) &&& (255 : Int32)))), .val (.ref oa), .val (.int (4 : Int32)), .val (.int (1 : Int32)), .val (.int (pg 1))] [(.int (8 : Int32)), (.int (((0 : Int32) <<< ((8 : Int32) &&& 31)) ||| ((pg 0) &&& (255 : Int32))))])) _
  refine Goes.by (fun _ k => XS.ishl X0.here hx rfl (hb hby d1_25) rfl k) ?_
  show Goes p.tables e below (s₁.setTop (mkF m 26 #[.val (.ref oa), .val (.int (((0 : Int32) <<< ((8 : Int32) &&& 31)) ||| ((pg 0) &&& (255 : Int32)))), .val (.ref oa), .val (.int (4 : Int32)), .val (.int (1 : Int32)), .val (.int (pg 1))] [(.int ((((0 : Int32) <<< ((8 : Int32) &&& 31)) ||| ((pg 0) &&& (255 : Int32))) <<< ((8 : Int32) &&& 31)))])) _
  refine Goes.by (fun _ k => XS.iload X0.here hx rfl (hb hby d1_26) rfl k) ?_
  show Goes p.tables e below (s₁.setTop (mkF m 28 #[.val (.ref oa), .val (.int (((0 : Int32) <<< ((8 : Int32) &&& 31)) ||| ((pg 0) &&& (255 : Int32)))), .val (.ref oa), .val (.int (4 : Int32)), .val (.int (1 : Int32)), .val (.int (pg 1))] [(.int (pg 1)), (.int ((((0 : Int32) <<< ((8 : Int32) &&& 31)) ||| ((pg 0) &&& (255 : Int32))) <<< ((8 : Int32) &&& 31)))])) _
  refine Goes.by (fun _ k => XS.sipush X0.here hx rfl (hb hby d1_28) k) ?_
  show Goes p.tables e below (s₁.setTop (mkF m 31 #[.val (.ref oa), .val (.int (((0 : Int32) <<< ((8 : Int32) &&& 31)) ||| ((pg 0) &&& (255 : Int32)))), .val (.ref oa), .val (.int (4 : Int32)), .val (.int (1 : Int32)), .val (.int (pg 1))] [(.int (255 : Int32)), (.int (pg 1)), (.int ((((0 : Int32) <<< ((8 : Int32) &&& 31)) ||| ((pg 0) &&& (255 : Int32))) <<< ((8 : Int32) &&& 31)))])) _
  refine Goes.by (fun _ k => XS.iand X0.here hx rfl (hb hby d1_31) rfl k) ?_
  show Goes p.tables e below (s₁.setTop (mkF m 32 #[.val (.ref oa), .val (.int (((0 : Int32) <<< ((8 : Int32) &&& 31)) ||| ((pg 0) &&& (255 : Int32)))), .val (.ref oa), .val (.int (4 : Int32)), .val (.int (1 : Int32)), .val (.int (pg 1))] [(.int ((pg 1) &&& (255 : Int32))), (.int ((((0 : Int32) <<< ((8 : Int32) &&& 31)) ||| ((pg 0) &&& (255 : Int32))) <<< ((8 : Int32) &&& 31)))])) _
  refine Goes.by (fun _ k => XS.ior X0.here hx rfl (hb hby d1_32) rfl k) ?_
  show Goes p.tables e below (s₁.setTop (mkF m 33 #[.val (.ref oa), .val (.int (((0 : Int32) <<< ((8 : Int32) &&& 31)) ||| ((pg 0) &&& (255 : Int32)))), .val (.ref oa), .val (.int (4 : Int32)), .val (.int (1 : Int32)), .val (.int (pg 1))] [(.int (((((0 : Int32) <<< ((8 : Int32) &&& 31)) ||| ((pg 0) &&& (255 : Int32))) <<< ((8 : Int32) &&& 31)) ||| ((pg 1) &&& (255 : Int32))))])) _
  refine Goes.by (fun _ k => XS.istoreN X0.here hx rfl (hb hby d1_33) rfl (l' := #[.val (.ref oa), .val (.int (((((0 : Int32) <<< ((8 : Int32) &&& 31)) ||| ((pg 0) &&& (255 : Int32))) <<< ((8 : Int32) &&& 31)) ||| ((pg 1) &&& (255 : Int32)))), .val (.ref oa), .val (.int (4 : Int32)), .val (.int (1 : Int32)), .val (.int (pg 1))]) rfl k) ?_
  show Goes p.tables e below (s₁.setTop (mkF m 34 #[.val (.ref oa), .val (.int (((((0 : Int32) <<< ((8 : Int32) &&& 31)) ||| ((pg 0) &&& (255 : Int32))) <<< ((8 : Int32) &&& 31)) ||| ((pg 1) &&& (255 : Int32)))), .val (.ref oa), .val (.int (4 : Int32)), .val (.int (1 : Int32)), .val (.int (pg 1))] [])) _
  refine Goes.by (fun _ k => XS.iinc X0.here hx rfl (hb hby d1_34) rfl (l' := #[.val (.ref oa), .val (.int (((((0 : Int32) <<< ((8 : Int32) &&& 31)) ||| ((pg 0) &&& (255 : Int32))) <<< ((8 : Int32) &&& 31)) ||| ((pg 1) &&& (255 : Int32)))), .val (.ref oa), .val (.int (4 : Int32)), .val (.int (2 : Int32)), .val (.int (pg 1))]) rfl k) ?_
  show Goes p.tables e below (s₁.setTop (mkF m 37 #[.val (.ref oa), .val (.int (((((0 : Int32) <<< ((8 : Int32) &&& 31)) ||| ((pg 0) &&& (255 : Int32))) <<< ((8 : Int32) &&& 31)) ||| ((pg 1) &&& (255 : Int32)))), .val (.ref oa), .val (.int (4 : Int32)), .val (.int (2 : Int32)), .val (.int (pg 1))] [])) _
  refine Goes.by (fun _ k => XS.goto X0.here hx rfl (pc0 := 37) (pc' := 10) rfl (hb hby d1_37) (by decide) (by decide) k) ?_
  show Goes p.tables e below (s₁.setTop (mkF m 10 #[.val (.ref oa), .val (.int (((((0 : Int32) <<< ((8 : Int32) &&& 31)) ||| ((pg 0) &&& (255 : Int32))) <<< ((8 : Int32) &&& 31)) ||| ((pg 1) &&& (255 : Int32)))), .val (.ref oa), .val (.int (4 : Int32)), .val (.int (2 : Int32)), .val (.int (pg 1))] [])) _
  refine Goes.by (fun _ k => XS.iload X0.here hx rfl (hb hby d1_10) rfl k) ?_
  show Goes p.tables e below (s₁.setTop (mkF m 12 #[.val (.ref oa), .val (.int (((((0 : Int32) <<< ((8 : Int32) &&& 31)) ||| ((pg 0) &&& (255 : Int32))) <<< ((8 : Int32) &&& 31)) ||| ((pg 1) &&& (255 : Int32)))), .val (.ref oa), .val (.int (4 : Int32)), .val (.int (2 : Int32)), .val (.int (pg 1))] [(.int (2 : Int32))])) _
  refine Goes.by (fun _ k => XS.iloadN X0.here hx rfl (hb hby d1_12) rfl k) ?_
  show Goes p.tables e below (s₁.setTop (mkF m 13 #[.val (.ref oa), .val (.int (((((0 : Int32) <<< ((8 : Int32) &&& 31)) ||| ((pg 0) &&& (255 : Int32))) <<< ((8 : Int32) &&& 31)) ||| ((pg 1) &&& (255 : Int32)))), .val (.ref oa), .val (.int (4 : Int32)), .val (.int (2 : Int32)), .val (.int (pg 1))] [(.int (4 : Int32)), (.int (2 : Int32))])) _
  refine Goes.by (fun _ k => XS.icmpNo X0.here hx rfl (hb hby d1_13) rfl (tlt (by decide : (2 : Int32) < (4 : Int32))).2.1 k) ?_
  show Goes p.tables e below (s₁.setTop (mkF m 16 #[.val (.ref oa), .val (.int (((((0 : Int32) <<< ((8 : Int32) &&& 31)) ||| ((pg 0) &&& (255 : Int32))) <<< ((8 : Int32) &&& 31)) ||| ((pg 1) &&& (255 : Int32)))), .val (.ref oa), .val (.int (4 : Int32)), .val (.int (2 : Int32)), .val (.int (pg 1))] [])) _
  refine Goes.by (fun _ k => XS.aloadN X0.here hx rfl (hb hby d1_16) rfl rfl k) ?_
  show Goes p.tables e below (s₁.setTop (mkF m 17 #[.val (.ref oa), .val (.int (((((0 : Int32) <<< ((8 : Int32) &&& 31)) ||| ((pg 0) &&& (255 : Int32))) <<< ((8 : Int32) &&& 31)) ||| ((pg 1) &&& (255 : Int32)))), .val (.ref oa), .val (.int (4 : Int32)), .val (.int (2 : Int32)), .val (.int (pg 1))] [(.ref oa)])) _
  refine Goes.by (fun _ k => XS.iload X0.here hx rfl (hb hby d1_17) rfl k) ?_
  show Goes p.tables e below (s₁.setTop (mkF m 19 #[.val (.ref oa), .val (.int (((((0 : Int32) <<< ((8 : Int32) &&& 31)) ||| ((pg 0) &&& (255 : Int32))) <<< ((8 : Int32) &&& 31)) ||| ((pg 1) &&& (255 : Int32)))), .val (.ref oa), .val (.int (4 : Int32)), .val (.int (2 : Int32)), .val (.int (pg 1))] [(.int (2 : Int32)), (.ref oa)])) _
  refine Goes.by (fun _ k => ldB (v := (pg 2)) (fr := (mkF m 19 #[.val (.ref oa), .val (.int (((((0 : Int32) <<< ((8 : Int32) &&& 31)) ||| ((pg 0) &&& (255 : Int32))) <<< ((8 : Int32) &&& 31)) ||| ((pg 1) &&& (255 : Int32)))), .val (.ref oa), .val (.int (4 : Int32)), .val (.int (2 : Int32)), .val (.int (pg 1))] [(.int (2 : Int32)), (.ref oa)])) X0 hx hZ e0 A_oa (i := 2) (by decide) (by decide) rfl rfl rfl (hb hby d1_19) k) ?_
  show Goes p.tables e below (s₁.setTop (mkF m 20 #[.val (.ref oa), .val (.int (((((0 : Int32) <<< ((8 : Int32) &&& 31)) ||| ((pg 0) &&& (255 : Int32))) <<< ((8 : Int32) &&& 31)) ||| ((pg 1) &&& (255 : Int32)))), .val (.ref oa), .val (.int (4 : Int32)), .val (.int (2 : Int32)), .val (.int (pg 1))] [(.int (pg 2))])) _
  refine Goes.by (fun _ k => XS.istore X0.here hx rfl (hb hby d1_20) rfl (l' := #[.val (.ref oa), .val (.int (((((0 : Int32) <<< ((8 : Int32) &&& 31)) ||| ((pg 0) &&& (255 : Int32))) <<< ((8 : Int32) &&& 31)) ||| ((pg 1) &&& (255 : Int32)))), .val (.ref oa), .val (.int (4 : Int32)), .val (.int (2 : Int32)), .val (.int (pg 2))]) rfl k) ?_
  show Goes p.tables e below (s₁.setTop (mkF m 22 #[.val (.ref oa), .val (.int (((((0 : Int32) <<< ((8 : Int32) &&& 31)) ||| ((pg 0) &&& (255 : Int32))) <<< ((8 : Int32) &&& 31)) ||| ((pg 1) &&& (255 : Int32)))), .val (.ref oa), .val (.int (4 : Int32)), .val (.int (2 : Int32)), .val (.int (pg 2))] [])) _
  refine Goes.by (fun _ k => XS.iloadN X0.here hx rfl (hb hby d1_22) rfl k) ?_
  show Goes p.tables e below (s₁.setTop (mkF m 23 #[.val (.ref oa), .val (.int (((((0 : Int32) <<< ((8 : Int32) &&& 31)) ||| ((pg 0) &&& (255 : Int32))) <<< ((8 : Int32) &&& 31)) ||| ((pg 1) &&& (255 : Int32)))), .val (.ref oa), .val (.int (4 : Int32)), .val (.int (2 : Int32)), .val (.int (pg 2))] [(.int (((((0 : Int32) <<< ((8 : Int32) &&& 31)) ||| ((pg 0) &&& (255 : Int32))) <<< ((8 : Int32) &&& 31)) ||| ((pg 1) &&& (255 : Int32))))])) _
  refine Goes.by (fun _ k => XS.bipush X0.here hx rfl (hb hby d1_23) k) ?_
  show Goes p.tables e below (s₁.setTop (mkF m 25 #[.val (.ref oa), .val (.int (((((0 : Int32) <<< ((8 : Int32) &&& 31)) ||| ((pg 0) &&& (255 : Int32))) <<< ((8 : Int32) &&& 31)) ||| ((pg 1) &&& (255 : Int32)))), .val (.ref oa), .val (.int (4 : Int32)), .val (.int (2 : Int32)), .val (.int (pg 2))] [(.int (8 : Int32)), (.int (((((0 : Int32) <<< ((8 : Int32) &&& 31)) ||| ((pg 0) &&& (255 : Int32))) <<< ((8 : Int32) &&& 31)) ||| ((pg 1) &&& (255 : Int32))))])) _
  refine Goes.by (fun _ k => XS.ishl X0.here hx rfl (hb hby d1_25) rfl k) ?_
  show Goes p.tables e below (s₁.setTop (mkF m 26 #[.val (.ref oa), .val (.int (((((0 : Int32) <<< ((8 : Int32) &&& 31)) ||| ((pg 0) &&& (255 : Int32))) <<< ((8 : Int32) &&& 31)) ||| ((pg 1) &&& (255 : Int32)))), .val (.ref oa), .val (.int (4 : Int32)), .val (.int (2 : Int32)), .val (.int (pg 2))] [(.int ((((((0 : Int32) <<< ((8 : Int32) &&& 31)) ||| ((pg 0) &&& (255 : Int32))) <<< ((8 : Int32) &&& 31)) ||| ((pg 1) &&& (255 : Int32))) <<< ((8 : Int32) &&& 31)))])) _
  refine Goes.by (fun _ k => XS.iload X0.here hx rfl (hb hby d1_26) rfl k) ?_
  show Goes p.tables e below (s₁.setTop (mkF m 28 #[.val (.ref oa), .val (.int (((((0 : Int32) <<< ((8 : Int32) &&& 31)) ||| ((pg 0) &&& (255 : Int32))) <<< ((8 : Int32) &&& 31)) ||| ((pg 1) &&& (255 : Int32)))), .val (.ref oa), .val (.int (4 : Int32)), .val (.int (2 : Int32)), .val (.int (pg 2))] [(.int (pg 2)), (.int ((((((0 : Int32) <<< ((8 : Int32) &&& 31)) ||| ((pg 0) &&& (255 : Int32))) <<< ((8 : Int32) &&& 31)) ||| ((pg 1) &&& (255 : Int32))) <<< ((8 : Int32) &&& 31)))])) _
  refine Goes.by (fun _ k => XS.sipush X0.here hx rfl (hb hby d1_28) k) ?_
  show Goes p.tables e below (s₁.setTop (mkF m 31 #[.val (.ref oa), .val (.int (((((0 : Int32) <<< ((8 : Int32) &&& 31)) ||| ((pg 0) &&& (255 : Int32))) <<< ((8 : Int32) &&& 31)) ||| ((pg 1) &&& (255 : Int32)))), .val (.ref oa), .val (.int (4 : Int32)), .val (.int (2 : Int32)), .val (.int (pg 2))] [(.int (255 : Int32)), (.int (pg 2)), (.int ((((((0 : Int32) <<< ((8 : Int32) &&& 31)) ||| ((pg 0) &&& (255 : Int32))) <<< ((8 : Int32) &&& 31)) ||| ((pg 1) &&& (255 : Int32))) <<< ((8 : Int32) &&& 31)))])) _
  refine Goes.by (fun _ k => XS.iand X0.here hx rfl (hb hby d1_31) rfl k) ?_
  show Goes p.tables e below (s₁.setTop (mkF m 32 #[.val (.ref oa), .val (.int (((((0 : Int32) <<< ((8 : Int32) &&& 31)) ||| ((pg 0) &&& (255 : Int32))) <<< ((8 : Int32) &&& 31)) ||| ((pg 1) &&& (255 : Int32)))), .val (.ref oa), .val (.int (4 : Int32)), .val (.int (2 : Int32)), .val (.int (pg 2))] [(.int ((pg 2) &&& (255 : Int32))), (.int ((((((0 : Int32) <<< ((8 : Int32) &&& 31)) ||| ((pg 0) &&& (255 : Int32))) <<< ((8 : Int32) &&& 31)) ||| ((pg 1) &&& (255 : Int32))) <<< ((8 : Int32) &&& 31)))])) _
  refine Goes.by (fun _ k => XS.ior X0.here hx rfl (hb hby d1_32) rfl k) ?_
  show Goes p.tables e below (s₁.setTop (mkF m 33 #[.val (.ref oa), .val (.int (((((0 : Int32) <<< ((8 : Int32) &&& 31)) ||| ((pg 0) &&& (255 : Int32))) <<< ((8 : Int32) &&& 31)) ||| ((pg 1) &&& (255 : Int32)))), .val (.ref oa), .val (.int (4 : Int32)), .val (.int (2 : Int32)), .val (.int (pg 2))] [(.int (((((((0 : Int32) <<< ((8 : Int32) &&& 31)) ||| ((pg 0) &&& (255 : Int32))) <<< ((8 : Int32) &&& 31)) ||| ((pg 1) &&& (255 : Int32))) <<< ((8 : Int32) &&& 31)) ||| ((pg 2) &&& (255 : Int32))))])) _
  refine Goes.by (fun _ k => XS.istoreN X0.here hx rfl (hb hby d1_33) rfl (l' := #[.val (.ref oa), .val (.int (((((((0 : Int32) <<< ((8 : Int32) &&& 31)) ||| ((pg 0) &&& (255 : Int32))) <<< ((8 : Int32) &&& 31)) ||| ((pg 1) &&& (255 : Int32))) <<< ((8 : Int32) &&& 31)) ||| ((pg 2) &&& (255 : Int32)))), .val (.ref oa), .val (.int (4 : Int32)), .val (.int (2 : Int32)), .val (.int (pg 2))]) rfl k) ?_
  show Goes p.tables e below (s₁.setTop (mkF m 34 #[.val (.ref oa), .val (.int (((((((0 : Int32) <<< ((8 : Int32) &&& 31)) ||| ((pg 0) &&& (255 : Int32))) <<< ((8 : Int32) &&& 31)) ||| ((pg 1) &&& (255 : Int32))) <<< ((8 : Int32) &&& 31)) ||| ((pg 2) &&& (255 : Int32)))), .val (.ref oa), .val (.int (4 : Int32)), .val (.int (2 : Int32)), .val (.int (pg 2))] [])) _
  refine Goes.by (fun _ k => XS.iinc X0.here hx rfl (hb hby d1_34) rfl (l' := #[.val (.ref oa), .val (.int (((((((0 : Int32) <<< ((8 : Int32) &&& 31)) ||| ((pg 0) &&& (255 : Int32))) <<< ((8 : Int32) &&& 31)) ||| ((pg 1) &&& (255 : Int32))) <<< ((8 : Int32) &&& 31)) ||| ((pg 2) &&& (255 : Int32)))), .val (.ref oa), .val (.int (4 : Int32)), .val (.int (3 : Int32)), .val (.int (pg 2))]) rfl k) ?_
  show Goes p.tables e below (s₁.setTop (mkF m 37 #[.val (.ref oa), .val (.int (((((((0 : Int32) <<< ((8 : Int32) &&& 31)) ||| ((pg 0) &&& (255 : Int32))) <<< ((8 : Int32) &&& 31)) ||| ((pg 1) &&& (255 : Int32))) <<< ((8 : Int32) &&& 31)) ||| ((pg 2) &&& (255 : Int32)))), .val (.ref oa), .val (.int (4 : Int32)), .val (.int (3 : Int32)), .val (.int (pg 2))] [])) _
  refine Goes.by (fun _ k => XS.goto X0.here hx rfl (pc0 := 37) (pc' := 10) rfl (hb hby d1_37) (by decide) (by decide) k) ?_
  show Goes p.tables e below (s₁.setTop (mkF m 10 #[.val (.ref oa), .val (.int (((((((0 : Int32) <<< ((8 : Int32) &&& 31)) ||| ((pg 0) &&& (255 : Int32))) <<< ((8 : Int32) &&& 31)) ||| ((pg 1) &&& (255 : Int32))) <<< ((8 : Int32) &&& 31)) ||| ((pg 2) &&& (255 : Int32)))), .val (.ref oa), .val (.int (4 : Int32)), .val (.int (3 : Int32)), .val (.int (pg 2))] [])) _
  refine Goes.by (fun _ k => XS.iload X0.here hx rfl (hb hby d1_10) rfl k) ?_
  show Goes p.tables e below (s₁.setTop (mkF m 12 #[.val (.ref oa), .val (.int (((((((0 : Int32) <<< ((8 : Int32) &&& 31)) ||| ((pg 0) &&& (255 : Int32))) <<< ((8 : Int32) &&& 31)) ||| ((pg 1) &&& (255 : Int32))) <<< ((8 : Int32) &&& 31)) ||| ((pg 2) &&& (255 : Int32)))), .val (.ref oa), .val (.int (4 : Int32)), .val (.int (3 : Int32)), .val (.int (pg 2))] [(.int (3 : Int32))])) _
  refine Goes.by (fun _ k => XS.iloadN X0.here hx rfl (hb hby d1_12) rfl k) ?_
  show Goes p.tables e below (s₁.setTop (mkF m 13 #[.val (.ref oa), .val (.int (((((((0 : Int32) <<< ((8 : Int32) &&& 31)) ||| ((pg 0) &&& (255 : Int32))) <<< ((8 : Int32) &&& 31)) ||| ((pg 1) &&& (255 : Int32))) <<< ((8 : Int32) &&& 31)) ||| ((pg 2) &&& (255 : Int32)))), .val (.ref oa), .val (.int (4 : Int32)), .val (.int (3 : Int32)), .val (.int (pg 2))] [(.int (4 : Int32)), (.int (3 : Int32))])) _
  refine Goes.by (fun _ k => XS.icmpNo X0.here hx rfl (hb hby d1_13) rfl (tlt (by decide : (3 : Int32) < (4 : Int32))).2.1 k) ?_
  show Goes p.tables e below (s₁.setTop (mkF m 16 #[.val (.ref oa), .val (.int (((((((0 : Int32) <<< ((8 : Int32) &&& 31)) ||| ((pg 0) &&& (255 : Int32))) <<< ((8 : Int32) &&& 31)) ||| ((pg 1) &&& (255 : Int32))) <<< ((8 : Int32) &&& 31)) ||| ((pg 2) &&& (255 : Int32)))), .val (.ref oa), .val (.int (4 : Int32)), .val (.int (3 : Int32)), .val (.int (pg 2))] [])) _
  refine Goes.by (fun _ k => XS.aloadN X0.here hx rfl (hb hby d1_16) rfl rfl k) ?_
  show Goes p.tables e below (s₁.setTop (mkF m 17 #[.val (.ref oa), .val (.int (((((((0 : Int32) <<< ((8 : Int32) &&& 31)) ||| ((pg 0) &&& (255 : Int32))) <<< ((8 : Int32) &&& 31)) ||| ((pg 1) &&& (255 : Int32))) <<< ((8 : Int32) &&& 31)) ||| ((pg 2) &&& (255 : Int32)))), .val (.ref oa), .val (.int (4 : Int32)), .val (.int (3 : Int32)), .val (.int (pg 2))] [(.ref oa)])) _
  refine Goes.by (fun _ k => XS.iload X0.here hx rfl (hb hby d1_17) rfl k) ?_
  show Goes p.tables e below (s₁.setTop (mkF m 19 #[.val (.ref oa), .val (.int (((((((0 : Int32) <<< ((8 : Int32) &&& 31)) ||| ((pg 0) &&& (255 : Int32))) <<< ((8 : Int32) &&& 31)) ||| ((pg 1) &&& (255 : Int32))) <<< ((8 : Int32) &&& 31)) ||| ((pg 2) &&& (255 : Int32)))), .val (.ref oa), .val (.int (4 : Int32)), .val (.int (3 : Int32)), .val (.int (pg 2))] [(.int (3 : Int32)), (.ref oa)])) _
  refine Goes.by (fun _ k => ldB (v := (pg 3)) (fr := (mkF m 19 #[.val (.ref oa), .val (.int (((((((0 : Int32) <<< ((8 : Int32) &&& 31)) ||| ((pg 0) &&& (255 : Int32))) <<< ((8 : Int32) &&& 31)) ||| ((pg 1) &&& (255 : Int32))) <<< ((8 : Int32) &&& 31)) ||| ((pg 2) &&& (255 : Int32)))), .val (.ref oa), .val (.int (4 : Int32)), .val (.int (3 : Int32)), .val (.int (pg 2))] [(.int (3 : Int32)), (.ref oa)])) X0 hx hZ e0 A_oa (i := 3) (by decide) (by decide) rfl rfl rfl (hb hby d1_19) k) ?_
  show Goes p.tables e below (s₁.setTop (mkF m 20 #[.val (.ref oa), .val (.int (((((((0 : Int32) <<< ((8 : Int32) &&& 31)) ||| ((pg 0) &&& (255 : Int32))) <<< ((8 : Int32) &&& 31)) ||| ((pg 1) &&& (255 : Int32))) <<< ((8 : Int32) &&& 31)) ||| ((pg 2) &&& (255 : Int32)))), .val (.ref oa), .val (.int (4 : Int32)), .val (.int (3 : Int32)), .val (.int (pg 2))] [(.int (pg 3))])) _
  refine Goes.by (fun _ k => XS.istore X0.here hx rfl (hb hby d1_20) rfl (l' := #[.val (.ref oa), .val (.int (((((((0 : Int32) <<< ((8 : Int32) &&& 31)) ||| ((pg 0) &&& (255 : Int32))) <<< ((8 : Int32) &&& 31)) ||| ((pg 1) &&& (255 : Int32))) <<< ((8 : Int32) &&& 31)) ||| ((pg 2) &&& (255 : Int32)))), .val (.ref oa), .val (.int (4 : Int32)), .val (.int (3 : Int32)), .val (.int (pg 3))]) rfl k) ?_
  show Goes p.tables e below (s₁.setTop (mkF m 22 #[.val (.ref oa), .val (.int (((((((0 : Int32) <<< ((8 : Int32) &&& 31)) ||| ((pg 0) &&& (255 : Int32))) <<< ((8 : Int32) &&& 31)) ||| ((pg 1) &&& (255 : Int32))) <<< ((8 : Int32) &&& 31)) ||| ((pg 2) &&& (255 : Int32)))), .val (.ref oa), .val (.int (4 : Int32)), .val (.int (3 : Int32)), .val (.int (pg 3))] [])) _
  refine Goes.by (fun _ k => XS.iloadN X0.here hx rfl (hb hby d1_22) rfl k) ?_
  show Goes p.tables e below (s₁.setTop (mkF m 23 #[.val (.ref oa), .val (.int (((((((0 : Int32) <<< ((8 : Int32) &&& 31)) ||| ((pg 0) &&& (255 : Int32))) <<< ((8 : Int32) &&& 31)) ||| ((pg 1) &&& (255 : Int32))) <<< ((8 : Int32) &&& 31)) ||| ((pg 2) &&& (255 : Int32)))), .val (.ref oa), .val (.int (4 : Int32)), .val (.int (3 : Int32)), .val (.int (pg 3))] [(.int (((((((0 : Int32) <<< ((8 : Int32) &&& 31)) ||| ((pg 0) &&& (255 : Int32))) <<< ((8 : Int32) &&& 31)) ||| ((pg 1) &&& (255 : Int32))) <<< ((8 : Int32) &&& 31)) ||| ((pg 2) &&& (255 : Int32))))])) _
  refine Goes.by (fun _ k => XS.bipush X0.here hx rfl (hb hby d1_23) k) ?_
  show Goes p.tables e below (s₁.setTop (mkF m 25 #[.val (.ref oa), .val (.int (((((((0 : Int32) <<< ((8 : Int32) &&& 31)) ||| ((pg 0) &&& (255 : Int32))) <<< ((8 : Int32) &&& 31)) ||| ((pg 1) &&& (255 : Int32))) <<< ((8 : Int32) &&& 31)) ||| ((pg 2) &&& (255 : Int32)))), .val (.ref oa), .val (.int (4 : Int32)), .val (.int (3 : Int32)), .val (.int (pg 3))] [(.int (8 : Int32)), (.int (((((((0 : Int32) <<< ((8 : Int32) &&& 31)) ||| ((pg 0) &&& (255 : Int32))) <<< ((8 : Int32) &&& 31)) ||| ((pg 1) &&& (255 : Int32))) <<< ((8 : Int32) &&& 31)) ||| ((pg 2) &&& (255 : Int32))))])) _
  refine Goes.by (fun _ k => XS.ishl X0.here hx rfl (hb hby d1_25) rfl k) ?_
  show Goes p.tables e below (s₁.setTop (mkF m 26 #[.val (.ref oa), .val (.int (((((((0 : Int32) <<< ((8 : Int32) &&& 31)) ||| ((pg 0) &&& (255 : Int32))) <<< ((8 : Int32) &&& 31)) ||| ((pg 1) &&& (255 : Int32))) <<< ((8 : Int32) &&& 31)) ||| ((pg 2) &&& (255 : Int32)))), .val (.ref oa), .val (.int (4 : Int32)), .val (.int (3 : Int32)), .val (.int (pg 3))] [(.int ((((((((0 : Int32) <<< ((8 : Int32) &&& 31)) ||| ((pg 0) &&& (255 : Int32))) <<< ((8 : Int32) &&& 31)) ||| ((pg 1) &&& (255 : Int32))) <<< ((8 : Int32) &&& 31)) ||| ((pg 2) &&& (255 : Int32))) <<< ((8 : Int32) &&& 31)))])) _
  refine Goes.by (fun _ k => XS.iload X0.here hx rfl (hb hby d1_26) rfl k) ?_
  show Goes p.tables e below (s₁.setTop (mkF m 28 #[.val (.ref oa), .val (.int (((((((0 : Int32) <<< ((8 : Int32) &&& 31)) ||| ((pg 0) &&& (255 : Int32))) <<< ((8 : Int32) &&& 31)) ||| ((pg 1) &&& (255 : Int32))) <<< ((8 : Int32) &&& 31)) ||| ((pg 2) &&& (255 : Int32)))), .val (.ref oa), .val (.int (4 : Int32)), .val (.int (3 : Int32)), .val (.int (pg 3))] [(.int (pg 3)), (.int ((((((((0 : Int32) <<< ((8 : Int32) &&& 31)) ||| ((pg 0) &&& (255 : Int32))) <<< ((8 : Int32) &&& 31)) ||| ((pg 1) &&& (255 : Int32))) <<< ((8 : Int32) &&& 31)) ||| ((pg 2) &&& (255 : Int32))) <<< ((8 : Int32) &&& 31)))])) _
  refine Goes.by (fun _ k => XS.sipush X0.here hx rfl (hb hby d1_28) k) ?_
  show Goes p.tables e below (s₁.setTop (mkF m 31 #[.val (.ref oa), .val (.int (((((((0 : Int32) <<< ((8 : Int32) &&& 31)) ||| ((pg 0) &&& (255 : Int32))) <<< ((8 : Int32) &&& 31)) ||| ((pg 1) &&& (255 : Int32))) <<< ((8 : Int32) &&& 31)) ||| ((pg 2) &&& (255 : Int32)))), .val (.ref oa), .val (.int (4 : Int32)), .val (.int (3 : Int32)), .val (.int (pg 3))] [(.int (255 : Int32)), (.int (pg 3)), (.int ((((((((0 : Int32) <<< ((8 : Int32) &&& 31)) ||| ((pg 0) &&& (255 : Int32))) <<< ((8 : Int32) &&& 31)) ||| ((pg 1) &&& (255 : Int32))) <<< ((8 : Int32) &&& 31)) ||| ((pg 2) &&& (255 : Int32))) <<< ((8 : Int32) &&& 31)))])) _
  refine Goes.by (fun _ k => XS.iand X0.here hx rfl (hb hby d1_31) rfl k) ?_
  show Goes p.tables e below (s₁.setTop (mkF m 32 #[.val (.ref oa), .val (.int (((((((0 : Int32) <<< ((8 : Int32) &&& 31)) ||| ((pg 0) &&& (255 : Int32))) <<< ((8 : Int32) &&& 31)) ||| ((pg 1) &&& (255 : Int32))) <<< ((8 : Int32) &&& 31)) ||| ((pg 2) &&& (255 : Int32)))), .val (.ref oa), .val (.int (4 : Int32)), .val (.int (3 : Int32)), .val (.int (pg 3))] [(.int ((pg 3) &&& (255 : Int32))), (.int ((((((((0 : Int32) <<< ((8 : Int32) &&& 31)) ||| ((pg 0) &&& (255 : Int32))) <<< ((8 : Int32) &&& 31)) ||| ((pg 1) &&& (255 : Int32))) <<< ((8 : Int32) &&& 31)) ||| ((pg 2) &&& (255 : Int32))) <<< ((8 : Int32) &&& 31)))])) _
  refine Goes.by (fun _ k => XS.ior X0.here hx rfl (hb hby d1_32) rfl k) ?_
  show Goes p.tables e below (s₁.setTop (mkF m 33 #[.val (.ref oa), .val (.int (((((((0 : Int32) <<< ((8 : Int32) &&& 31)) ||| ((pg 0) &&& (255 : Int32))) <<< ((8 : Int32) &&& 31)) ||| ((pg 1) &&& (255 : Int32))) <<< ((8 : Int32) &&& 31)) ||| ((pg 2) &&& (255 : Int32)))), .val (.ref oa), .val (.int (4 : Int32)), .val (.int (3 : Int32)), .val (.int (pg 3))] [(.int (((((((((0 : Int32) <<< ((8 : Int32) &&& 31)) ||| ((pg 0) &&& (255 : Int32))) <<< ((8 : Int32) &&& 31)) ||| ((pg 1) &&& (255 : Int32))) <<< ((8 : Int32) &&& 31)) ||| ((pg 2) &&& (255 : Int32))) <<< ((8 : Int32) &&& 31)) ||| ((pg 3) &&& (255 : Int32))))])) _
  refine Goes.by (fun _ k => XS.istoreN X0.here hx rfl (hb hby d1_33) rfl (l' := #[.val (.ref oa), .val (.int (((((((((0 : Int32) <<< ((8 : Int32) &&& 31)) ||| ((pg 0) &&& (255 : Int32))) <<< ((8 : Int32) &&& 31)) ||| ((pg 1) &&& (255 : Int32))) <<< ((8 : Int32) &&& 31)) ||| ((pg 2) &&& (255 : Int32))) <<< ((8 : Int32) &&& 31)) ||| ((pg 3) &&& (255 : Int32)))), .val (.ref oa), .val (.int (4 : Int32)), .val (.int (3 : Int32)), .val (.int (pg 3))]) rfl k) ?_
  show Goes p.tables e below (s₁.setTop (mkF m 34 #[.val (.ref oa), .val (.int (((((((((0 : Int32) <<< ((8 : Int32) &&& 31)) ||| ((pg 0) &&& (255 : Int32))) <<< ((8 : Int32) &&& 31)) ||| ((pg 1) &&& (255 : Int32))) <<< ((8 : Int32) &&& 31)) ||| ((pg 2) &&& (255 : Int32))) <<< ((8 : Int32) &&& 31)) ||| ((pg 3) &&& (255 : Int32)))), .val (.ref oa), .val (.int (4 : Int32)), .val (.int (3 : Int32)), .val (.int (pg 3))] [])) _
  refine Goes.by (fun _ k => XS.iinc X0.here hx rfl (hb hby d1_34) rfl (l' := #[.val (.ref oa), .val (.int (((((((((0 : Int32) <<< ((8 : Int32) &&& 31)) ||| ((pg 0) &&& (255 : Int32))) <<< ((8 : Int32) &&& 31)) ||| ((pg 1) &&& (255 : Int32))) <<< ((8 : Int32) &&& 31)) ||| ((pg 2) &&& (255 : Int32))) <<< ((8 : Int32) &&& 31)) ||| ((pg 3) &&& (255 : Int32)))), .val (.ref oa), .val (.int (4 : Int32)), .val (.int (4 : Int32)), .val (.int (pg 3))]) rfl k) ?_
  show Goes p.tables e below (s₁.setTop (mkF m 37 #[.val (.ref oa), .val (.int (((((((((0 : Int32) <<< ((8 : Int32) &&& 31)) ||| ((pg 0) &&& (255 : Int32))) <<< ((8 : Int32) &&& 31)) ||| ((pg 1) &&& (255 : Int32))) <<< ((8 : Int32) &&& 31)) ||| ((pg 2) &&& (255 : Int32))) <<< ((8 : Int32) &&& 31)) ||| ((pg 3) &&& (255 : Int32)))), .val (.ref oa), .val (.int (4 : Int32)), .val (.int (4 : Int32)), .val (.int (pg 3))] [])) _
  refine Goes.by (fun _ k => XS.goto X0.here hx rfl (pc0 := 37) (pc' := 10) rfl (hb hby d1_37) (by decide) (by decide) k) ?_
  show Goes p.tables e below (s₁.setTop (mkF m 10 #[.val (.ref oa), .val (.int (((((((((0 : Int32) <<< ((8 : Int32) &&& 31)) ||| ((pg 0) &&& (255 : Int32))) <<< ((8 : Int32) &&& 31)) ||| ((pg 1) &&& (255 : Int32))) <<< ((8 : Int32) &&& 31)) ||| ((pg 2) &&& (255 : Int32))) <<< ((8 : Int32) &&& 31)) ||| ((pg 3) &&& (255 : Int32)))), .val (.ref oa), .val (.int (4 : Int32)), .val (.int (4 : Int32)), .val (.int (pg 3))] [])) _
  refine Goes.by (fun _ k => XS.iload X0.here hx rfl (hb hby d1_10) rfl k) ?_
  show Goes p.tables e below (s₁.setTop (mkF m 12 #[.val (.ref oa), .val (.int (((((((((0 : Int32) <<< ((8 : Int32) &&& 31)) ||| ((pg 0) &&& (255 : Int32))) <<< ((8 : Int32) &&& 31)) ||| ((pg 1) &&& (255 : Int32))) <<< ((8 : Int32) &&& 31)) ||| ((pg 2) &&& (255 : Int32))) <<< ((8 : Int32) &&& 31)) ||| ((pg 3) &&& (255 : Int32)))), .val (.ref oa), .val (.int (4 : Int32)), .val (.int (4 : Int32)), .val (.int (pg 3))] [(.int (4 : Int32))])) _
  refine Goes.by (fun _ k => XS.iloadN X0.here hx rfl (hb hby d1_12) rfl k) ?_
  show Goes p.tables e below (s₁.setTop (mkF m 13 #[.val (.ref oa), .val (.int (((((((((0 : Int32) <<< ((8 : Int32) &&& 31)) ||| ((pg 0) &&& (255 : Int32))) <<< ((8 : Int32) &&& 31)) ||| ((pg 1) &&& (255 : Int32))) <<< ((8 : Int32) &&& 31)) ||| ((pg 2) &&& (255 : Int32))) <<< ((8 : Int32) &&& 31)) ||| ((pg 3) &&& (255 : Int32)))), .val (.ref oa), .val (.int (4 : Int32)), .val (.int (4 : Int32)), .val (.int (pg 3))] [(.int (4 : Int32)), (.int (4 : Int32))])) _
  refine Goes.by (fun _ k => XS.icmpYes X0.here hx rfl (pc0 := 13) (pc' := 40) rfl (hb hby d1_13) rfl (flt (by decide : ¬ ((4 : Int32) < (4 : Int32)))).2.1 (by decide) (by decide) k) ?_
  show Goes p.tables e below (s₁.setTop (mkF m 40 #[.val (.ref oa), .val (.int (((((((((0 : Int32) <<< ((8 : Int32) &&& 31)) ||| ((pg 0) &&& (255 : Int32))) <<< ((8 : Int32) &&& 31)) ||| ((pg 1) &&& (255 : Int32))) <<< ((8 : Int32) &&& 31)) ||| ((pg 2) &&& (255 : Int32))) <<< ((8 : Int32) &&& 31)) ||| ((pg 3) &&& (255 : Int32)))), .val (.ref oa), .val (.int (4 : Int32)), .val (.int (4 : Int32)), .val (.int (pg 3))] [])) _
  refine Goes.by (fun _ k => XS.iloadN X0.here hx rfl (hb hby d1_40) rfl k) ?_
  show Goes p.tables e below (s₁.setTop (mkF m 41 #[.val (.ref oa), .val (.int (((((((((0 : Int32) <<< ((8 : Int32) &&& 31)) ||| ((pg 0) &&& (255 : Int32))) <<< ((8 : Int32) &&& 31)) ||| ((pg 1) &&& (255 : Int32))) <<< ((8 : Int32) &&& 31)) ||| ((pg 2) &&& (255 : Int32))) <<< ((8 : Int32) &&& 31)) ||| ((pg 3) &&& (255 : Int32)))), .val (.ref oa), .val (.int (4 : Int32)), .val (.int (4 : Int32)), .val (.int (pg 3))] [(.int (((((((((0 : Int32) <<< ((8 : Int32) &&& 31)) ||| ((pg 0) &&& (255 : Int32))) <<< ((8 : Int32) &&& 31)) ||| ((pg 1) &&& (255 : Int32))) <<< ((8 : Int32) &&& 31)) ||| ((pg 2) &&& (255 : Int32))) <<< ((8 : Int32) &&& 31)) ||| ((pg 3) &&& (255 : Int32))))])) _
  obtain ⟨fs, hr, hrun, hended, hW, hsame⟩ := X0.leave (v := some (.int (((((((((0 : Int32) <<< ((8 : Int32) &&& 31)) ||| ((pg 0) &&& (255 : Int32))) <<< ((8 : Int32) &&& 31)) ||| ((pg 1) &&& (255 : Int32))) <<< ((8 : Int32) &&& 31)) ||| ((pg 2) &&& (255 : Int32))) <<< ((8 : Int32) &&& 31)) ||| ((pg 3) &&& (255 : Int32))))) (fun h => by rw [Bd.returns] at h; cases h)
  refine ⟨_, _, retI X0 hx Bd.returns (hb hby d1_41) hr, hrun, hended, _, _, rfl, ?_, ⟨_, rfl⟩, hW, hsame.mono (by decide) (by decide)⟩
  show Q1n4 Z oa pg h0 n0 _ s₁.heap _
  rw [e0]
  exact ⟨rfl, N0, rfl⟩
theorem own_len (px xl : Int32) (h : xl = ((px &&& (2147483647 : Int32)) % (5 : Int32))) : xl = (0 : Int32) ∨ xl = (1 : Int32) ∨ xl = (2 : Int32) ∨ xl = (3 : Int32) ∨ xl = (4 : Int32) := by
  have h1 := c_and px 2147483647 (by decide)
  have h2 := (c_irem (px &&& 2147483647) 5 5 rfl).1 h1.1
  rw [← h] at h2
  have h3 : 0 ≤ xl.toInt ∧ xl.toInt < 5 := by omega
  have key : ∀ (k : Int32), xl.toInt = k.toInt → xl = k := fun k q => Int32.toInt_inj.mp q
  by_cases a0 : xl.toInt = 0
  · exact Or.inl (key 0 a0)
  by_cases a1 : xl.toInt = 1
  · exact Or.inr (Or.inl (key 1 a1))
  by_cases a2 : xl.toInt = 2
  · exact Or.inr (Or.inr (Or.inl (key 2 a2)))
  by_cases a3 : xl.toInt = 3
  · exact Or.inr (Or.inr (Or.inr (Or.inl (key 3 a3))))
  · exact Or.inr (Or.inr (Or.inr (Or.inr (key 4 (by show xl.toInt = 4; omega)))))
def own_st (z w : Int32) : Int32 := (z <<< ((8 : Int32) &&& 31)) ||| (w.toInt8.toInt32.toInt8.toInt32 &&& (255 : Int32))
theorem own_or (z q : Int32) : ((z <<< ((8 : Int32) &&& 31)) ||| (q &&& (255 : Int32))) = (z <<< ((8 : Int32) &&& 31)) + (q &&& (255 : Int32)) := by
  apply Int32.toBitVec_inj.mp
  rw [Int32.toBitVec_or, Int32.toBitVec_add]
  refine (BitVec.add_eq_or_of_and_eq_zero _ _ ?_).symm
  have e : (z <<< ((8 : Int32) &&& 31)).toBitVec = z.toBitVec <<< 8 := rfl
  rw [e, Int32.toBitVec_and]
  apply BitVec.eq_of_getLsbD_eq
  intro i hi
  have h255 : (255 : Int32).toBitVec.getLsbD i = decide (i < 8) := by
    have key : ∀ i : Fin 32, (255 : Int32).toBitVec.getLsbD i.val = decide (i.val < 8) := by decide
    exact key ⟨i, hi⟩
  simp only [BitVec.getLsbD_and, BitVec.getLsbD_shiftLeft, h255, BitVec.getLsbD_zero]
  by_cases q : i < 8 <;> simp [q]
theorem own_stI (z w : Int32) : ((own_st z w).toInt - (z.toInt * 256 + w.toInt % 256)) % 4294967296 = 0 := by
  have e := own_or z w.toInt8.toInt32.toInt8.toInt32
  have h1 := c_iadd (z <<< ((8 : Int32) &&& 31)) (w.toInt8.toInt32.toInt8.toInt32 &&& (255 : Int32))
  have h2 := c_ishl z 8 8 (by decide)
  have h3 := c_mask w.toInt8.toInt32.toInt8.toInt32 255 8 (by decide) (by decide)
  have h4 := (c_i2b w).1
  have h5 := (c_i2b w.toInt8.toInt32).1
  rw [own_st, e]
  omega
theorem own_u (w : Int32) : ((w &&& (255 : Int32)).toInt64).toInt = w.toInt % 256 := by
  rw [c_i2l]; exact c_mask w 255 8 (by decide) (by decide)
theorem own_ex (z w : Int32) (n : Int) (hz : z.toInt = n) (h0 : 0 ≤ n) (h1 : n < 8388608) : (own_st z w).toInt = n * 256 + w.toInt % 256 := by
  have a := own_stI z w
  have b := rng32 (own_st z w)
  rw [hz] at a
  omega
theorem own_mu (u : Int64) (n c : Int) (d : Int64) (hd : d.toInt = c) (hu : u.toInt = n) (h0 : 0 ≤ n * c) (h1 : n * c < 4294967296) : (u * d).toInt = n * c := by
  have a := c_lmul u d
  have b := rng64 (u * d)
  rw [hu, hd] at a
  omega
theorem own_ad (x y : Int64) (n k : Int) (hx : x.toInt = n) (hy : y.toInt = k) (h0 : 0 ≤ n) (h1 : n < 8589934592) (h2 : 0 ≤ k) (h3 : k < 8589934592) : (x + y).toInt = n + k := by
  have a := c_ladd x y
  have b := rng64 (x + y)
  rw [hx, hy] at a
  omega
theorem own_fin (a : Int32) (b : Int64) (n : Int) (ha : (a.toInt - n) % 4294967296 = 0) (hb : b.toInt = n) : a = b.toInt32 := by
  have c := c_l2i b
  have r := rng32 a
  have r' := rng32 b.toInt32
  apply Int32.toInt_inj.mp
  omega
theorem own_c0 (pb0 pb1 pb2 pb3 : Int32) : (0 : Int32) = (0 : Int64).toInt32 := rfl
theorem own_c1 (pb0 pb1 pb2 pb3 : Int32) : own_st (0 : Int32) pb0 = ((pb0 &&& (255 : Int32)).toInt64).toInt32 :=
  own_fin _ _ (0 * 256 + pb0.toInt % 256) (own_stI 0 pb0) (by rw [own_u]; omega)
theorem own_c2 (pb0 pb1 pb2 pb3 : Int32) : own_st (own_st (0 : Int32) pb0) pb1 = ((((pb0 &&& (255 : Int32)).toInt64) * (256 : Int64)) + ((pb1 &&& (255 : Int32)).toInt64)).toInt32 := by
  have t0 := own_ex 0 pb0 0 rfl (by decide) (by decide)
  have s := own_stI (own_st 0 pb0) pb1
  rw [t0] at s
  refine own_fin _ _ _ s ?_
  rw [own_ad _ _ _ _ (own_mu _ _ 256 _ rfl (own_u pb0) (by omega) (by omega)) (own_u pb1) (by omega) (by omega) (by omega) (by omega)]
  omega
theorem own_c3 (pb0 pb1 pb2 pb3 : Int32) : own_st (own_st (own_st (0 : Int32) pb0) pb1) pb2 = (((((pb0 &&& (255 : Int32)).toInt64) * (65536 : Int64)) + (((pb1 &&& (255 : Int32)).toInt64) * (256 : Int64))) + ((pb2 &&& (255 : Int32)).toInt64)).toInt32 := by
  have t0 := own_ex 0 pb0 0 rfl (by decide) (by decide)
  have t1 := own_ex _ pb1 _ t0 (by omega) (by omega)
  have s := own_stI (own_st (own_st 0 pb0) pb1) pb2
  rw [t1] at s
  refine own_fin _ _ _ s ?_
  clear s t1 t0
  rw [own_ad _ _ _ _ (own_ad _ _ _ _ (own_mu _ _ 65536 _ rfl (own_u pb0) (by omega) (by omega)) (own_mu _ _ 256 _ rfl (own_u pb1) (by omega) (by omega)) (by omega) (by omega) (by omega) (by omega)) (own_u pb2) (by omega) (by omega) (by omega) (by omega)]
  omega
theorem own_c4 (pb0 pb1 pb2 pb3 : Int32) : own_st (own_st (own_st (own_st (0 : Int32) pb0) pb1) pb2) pb3 = ((((((pb0 &&& (255 : Int32)).toInt64) * (16777216 : Int64)) + (((pb1 &&& (255 : Int32)).toInt64) * (65536 : Int64))) + (((pb2 &&& (255 : Int32)).toInt64) * (256 : Int64))) + ((pb3 &&& (255 : Int32)).toInt64)).toInt32 := by
  have t0 := own_ex 0 pb0 0 rfl (by decide) (by decide)
  have t1 := own_ex _ pb1 _ t0 (by omega) (by omega)
  have t2 := own_ex _ pb2 _ t1 (by omega) (by omega)
  have s := own_stI (own_st (own_st (own_st 0 pb0) pb1) pb2) pb3
  rw [t2] at s
  refine own_fin _ _ _ s ?_
  clear s t2 t1 t0
  rw [own_ad _ _ _ _ (own_ad _ _ _ _ (own_ad _ _ _ _ (own_mu _ _ 16777216 _ rfl (own_u pb0) (by omega) (by omega)) (own_mu _ _ 65536 _ rfl (own_u pb1) (by omega) (by omega)) (by omega) (by omega) (by omega) (by omega)) (own_mu _ _ 256 _ rfl (own_u pb2) (by omega) (by omega)) (by omega) (by omega) (by omega) (by omega)) (own_u pb3) (by omega) (by omega) (by omega) (by omega)]
  omega
theorem pd_0 : parseMethodDescriptor "([B)I" = some ⟨[(.array .byte)], some .int⟩ := by decide +kernel
theorem pn_1 : plainName "castkey/card/ModeObjectsNumberPinLaw" = true := by first | (simp [plainName, overriddenIn]; done) | decide +kernel
theorem ef0 (m : MethodId) (pn : Int32) (pb0 : Int32) (pb1 : Int32) (pb2 : Int32) (pb3 : Int32) : entryFrame m #[(.int pn), (.int pb0), (.int pb1), (.int pb2), (.int pb3)] maxLocals = mkF m 0 #[.val (.int pn), .val (.int pb0), .val (.int pb1), .val (.int pb2), .val (.int pb3), .unset, .unset, .unset, .unset, .unset, .unset, .unset, .unset, .unset, .unset, .unset, .unset, .unset] [] := by first | (simp [entryFrame, mkF, argsToLocals, Value.category, maxLocals]; done) | rfl
def Q0 (Z : State) (pn : Int32) (pb0 : Int32) (pb1 : Int32) (pb2 : Int32) (pb3 : Int32) (h0 : Heap) (n0 : Nat) (v : Option Value) (h : Heap) (L : List Loc) : Prop := v = some (.int (1 : Int32)) ∧ Fr n0 L
set_option maxRecDepth 65536 in
set_option maxHeartbeats 40000000 in
theorem rm0 (l : Launch) (Z : State) (a0 : Array Value) (hw : ∀ d ∈ tables_1, d.before a0 Z = true) (ws : List Jvm.Cond) (pn : Int32) (pb0 : Int32) (pb1 : Int32) (pb2 : Int32) (pb3 : Int32) (h0 : Heap) (n0 : Nat) (Z0 : n0 ≤ h0.size) :
    MetFree l x (head1 (Jvm.Cond.code x code maxLocals ret :: ws) room_1) (fun a U => a = #[(.int pn), (.int pb0), (.int pb1), (.int pb2), (.int pb3)] ∧ Z.Warmed39 U.vm ∧ U.heap = h0) (fun _ _ _ _ _ => True) (fun _ U o U' => ∃ v L, o = .returned v ∧ Q0 Z pn pb0 pb1 pb2 pb3 h0 n0 v U'.heap L ∧ FrameEnd U o U' L room_1.cells room_1.slots) := by
  refine MetFree.of_bodySF (plainFor_of_name pn_1) hisR ?_
  intro p e s m args below meth c s₁ Bd hml0 hP hK
  obtain ⟨rfl, hZ, hh⟩ := hP
  have hx := Bd.exec
  have hby := Bd.bytes
  have hml : c.maxLocals = 18 := hml0
  have hown : s.vm.findClass "castkey/card/ModeObjectsNumberPinLaw" = some m.cls := findClass_of_methodNamed Bd.named
  have hnm := (name_of_methodNamed Bd.named Bd.method).1
  have X0 : Stand p l e room_1 s m #[(.int pn), (.int pb0), (.int pb1), (.int pb2), (.int pb3)] below meth c s₁ [] 0 0 := Stand.of_body Bd
  have e0 : s₁.heap = h0 := by rw [← hh, Bd.state]; rfl
  have N0 := Fr.nil n0
  refine Goes.by (fun _ k => castTop (ef0 m pn pb0 pb1 pb2 pb3) k) ?_
  show Goes p.tables e below (s₁.setTop (mkF m 0 #[.val (.int pn), .val (.int pb0), .val (.int pb1), .val (.int pb2), .val (.int pb3), .unset, .unset, .unset, .unset, .unset, .unset, .unset, .unset, .unset, .unset, .unset, .unset, .unset] [])) _
  refine Goes.by (fun _ k => XS.iloadN X0.here hx rfl (hb hby at_0) rfl k) ?_
  show Goes p.tables e below (s₁.setTop (mkF m 1 #[.val (.int pn), .val (.int pb0), .val (.int pb1), .val (.int pb2), .val (.int pb3), .unset, .unset, .unset, .unset, .unset, .unset, .unset, .unset, .unset, .unset, .unset, .unset, .unset] [(.int pn)])) _
  refine Goes.by (fun _ k => X0.ldcI hx hown (mvT hZ (hw _ (List.mem_of_getElem? (i := 0) rfl))) (g := (mkF m 1 #[.val (.int pn), .val (.int pb0), .val (.int pb1), .val (.int pb2), .val (.int pb3), .unset, .unset, .unset, .unset, .unset, .unset, .unset, .unset, .unset, .unset, .unset, .unset, .unset] [(.int pn)])) rfl (hb hby at_1) k) ?_
  show Goes p.tables e below (s₁.setTop (mkF m 3 #[.val (.int pn), .val (.int pb0), .val (.int pb1), .val (.int pb2), .val (.int pb3), .unset, .unset, .unset, .unset, .unset, .unset, .unset, .unset, .unset, .unset, .unset, .unset, .unset] [(.int (2147483647 : Int32)), (.int pn)])) _
  refine Goes.by (fun _ k => XS.iand X0.here hx rfl (hb hby at_3) rfl k) ?_
  show Goes p.tables e below (s₁.setTop (mkF m 4 #[.val (.int pn), .val (.int pb0), .val (.int pb1), .val (.int pb2), .val (.int pb3), .unset, .unset, .unset, .unset, .unset, .unset, .unset, .unset, .unset, .unset, .unset, .unset, .unset] [(.int (pn &&& (2147483647 : Int32)))])) _
  refine Goes.by (fun _ k => XS.iconst X0.here hx rfl (hb hby at_4) k) ?_
  show Goes p.tables e below (s₁.setTop (mkF m 5 #[.val (.int pn), .val (.int pb0), .val (.int pb1), .val (.int pb2), .val (.int pb3), .unset, .unset, .unset, .unset, .unset, .unset, .unset, .unset, .unset, .unset, .unset, .unset, .unset] [(.int (5 : Int32)), (.int (pn &&& (2147483647 : Int32)))])) _
  refine Goes.by (fun _ k => iremM X0 hx rfl (hb hby at_5) rfl (by decide) k) ?_
  show Goes p.tables e below (s₁.setTop (mkF m 6 #[.val (.int pn), .val (.int pb0), .val (.int pb1), .val (.int pb2), .val (.int pb3), .unset, .unset, .unset, .unset, .unset, .unset, .unset, .unset, .unset, .unset, .unset, .unset, .unset] [(.int ((pn &&& (2147483647 : Int32)) % (5 : Int32)))])) _
  obtain ⟨x1, hx1⟩ : ∃ z : Int32, z = ((pn &&& (2147483647 : Int32)) % (5 : Int32)) := ⟨_, rfl⟩
  refine Goes.by (fun _ k => XS.istore X0.here hx rfl (hb hby at_6) rfl (l' := #[.val (.int pn), .val (.int pb0), .val (.int pb1), .val (.int pb2), .val (.int pb3), .val (.int x1), .unset, .unset, .unset, .unset, .unset, .unset, .unset, .unset, .unset, .unset, .unset, .unset]) (by rw [hx1]; rfl) k) ?_
  show Goes p.tables e below (s₁.setTop (mkF m 8 #[.val (.int pn), .val (.int pb0), .val (.int pb1), .val (.int pb2), .val (.int pb3), .val (.int x1), .unset, .unset, .unset, .unset, .unset, .unset, .unset, .unset, .unset, .unset, .unset, .unset] [])) _
  rcases own_len pn x1 hx1 with qc | qc | qc | qc | qc
  · subst qc
    show Goes p.tables e below (s₁.setTop (mkF m 8 #[.val (.int pn), .val (.int pb0), .val (.int pb1), .val (.int pb2), .val (.int pb3), .val (.int (0 : Int32)), .unset, .unset, .unset, .unset, .unset, .unset, .unset, .unset, .unset, .unset, .unset, .unset] [])) _
    refine Goes.by (fun _ k => XS.iload X0.here hx rfl (hb hby at_8) rfl k) ?_
    show Goes p.tables e below (s₁.setTop (mkF m 10 #[.val (.int pn), .val (.int pb0), .val (.int pb1), .val (.int pb2), .val (.int pb3), .val (.int (0 : Int32)), .unset, .unset, .unset, .unset, .unset, .unset, .unset, .unset, .unset, .unset, .unset, .unset] [(.int (0 : Int32))])) _
    obtain ⟨T2, h2, X2, e2, E2, A2, st2⟩ := nwA (n := 0) (cap := 0) (fr := (mkF m 10 #[.val (.int pn), .val (.int pb0), .val (.int pb1), .val (.int pb2), .val (.int pb3), .val (.int (0 : Int32)), .unset, .unset, .unset, .unset, .unset, .unset, .unset, .unset, .unset, .unset, .unset, .unset] [(.int (0 : Int32))])) X0 hx hZ (hw _ (List.mem_of_getElem? (i := 1) rfl)) e0 (by decide) (by decide) (by decide) (by decide) (by decide) rfl rfl (hb hby at_10)
    obtain ⟨b2, g2⟩ : ∃ z, z = h0.size := ⟨_, rfl⟩
    rw [← g2] at A2 st2
    have g_b2 : n0 ≤ b2 := Nat.le_trans Z0 (Nat.le_of_eq g2.symm)
    have sz_b2 : h0.size ≤ b2 := Nat.le_trans (Keep.refl h0 []).1 (Nat.le_of_eq g2.symm)
    have Zs2 : n0 ≤ h2.size := Nat.le_trans Z0 E2.1
    have K2 : Keep h0 h2 [] := (Keep.refl h0 []).ext E2
    refine Goes.by st2 ?_
    have A_b2 : AI Z h2 b2 .byte 0 (fun _ => (0 : Int32)) := A2
    show Goes p.tables e below (T2.setTop (mkF m 12 #[.val (.int pn), .val (.int pb0), .val (.int pb1), .val (.int pb2), .val (.int pb3), .val (.int (0 : Int32)), .unset, .unset, .unset, .unset, .unset, .unset, .unset, .unset, .unset, .unset, .unset, .unset] [(.ref b2)])) _
    refine Goes.by (fun _ k => XS.astore X2.here hx rfl (hb hby at_12) rfl rfl (l' := #[.val (.int pn), .val (.int pb0), .val (.int pb1), .val (.int pb2), .val (.int pb3), .val (.int (0 : Int32)), .val (.ref b2), .unset, .unset, .unset, .unset, .unset, .unset, .unset, .unset, .unset, .unset, .unset]) rfl k) ?_
    show Goes p.tables e below (T2.setTop (mkF m 14 #[.val (.int pn), .val (.int pb0), .val (.int pb1), .val (.int pb2), .val (.int pb3), .val (.int (0 : Int32)), .val (.ref b2), .unset, .unset, .unset, .unset, .unset, .unset, .unset, .unset, .unset, .unset, .unset] [])) _
    refine Goes.by (fun _ k => XS.iload X2.here hx rfl (hb hby at_14) rfl k) ?_
    show Goes p.tables e below (T2.setTop (mkF m 16 #[.val (.int pn), .val (.int pb0), .val (.int pb1), .val (.int pb2), .val (.int pb3), .val (.int (0 : Int32)), .val (.ref b2), .unset, .unset, .unset, .unset, .unset, .unset, .unset, .unset, .unset, .unset, .unset] [(.int (0 : Int32))])) _
    refine Goes.by (fun _ k => XS.ifYes X2.here hx rfl (pc0 := 16) (pc' := 25) rfl (hb hby at_16) rfl ((if0 _ _).trans (flt (by decide : ¬ ((0 : Int32) < (0 : Int32)))).2.2.2) (by decide) (by decide) k) ?_
    show Goes p.tables e below (T2.setTop (mkF m 25 #[.val (.int pn), .val (.int pb0), .val (.int pb1), .val (.int pb2), .val (.int pb3), .val (.int (0 : Int32)), .val (.ref b2), .unset, .unset, .unset, .unset, .unset, .unset, .unset, .unset, .unset, .unset, .unset] [])) _
    refine Goes.by (fun _ k => XS.iload X2.here hx rfl (hb hby at_25) rfl k) ?_
    show Goes p.tables e below (T2.setTop (mkF m 27 #[.val (.int pn), .val (.int pb0), .val (.int pb1), .val (.int pb2), .val (.int pb3), .val (.int (0 : Int32)), .val (.ref b2), .unset, .unset, .unset, .unset, .unset, .unset, .unset, .unset, .unset, .unset, .unset] [(.int (0 : Int32))])) _
    refine Goes.by (fun _ k => XS.iconst X2.here hx rfl (hb hby at_27) k) ?_
    show Goes p.tables e below (T2.setTop (mkF m 28 #[.val (.int pn), .val (.int pb0), .val (.int pb1), .val (.int pb2), .val (.int pb3), .val (.int (0 : Int32)), .val (.ref b2), .unset, .unset, .unset, .unset, .unset, .unset, .unset, .unset, .unset, .unset, .unset] [(.int (1 : Int32)), (.int (0 : Int32))])) _
    refine Goes.by (fun _ k => XS.icmpYes X2.here hx rfl (pc0 := 28) (pc' := 37) rfl (hb hby at_28) rfl (flt (by decide : ¬ ((1 : Int32) < (0 : Int32)))).2.2.2 (by decide) (by decide) k) ?_
    show Goes p.tables e below (T2.setTop (mkF m 37 #[.val (.int pn), .val (.int pb0), .val (.int pb1), .val (.int pb2), .val (.int pb3), .val (.int (0 : Int32)), .val (.ref b2), .unset, .unset, .unset, .unset, .unset, .unset, .unset, .unset, .unset, .unset, .unset] [])) _
    refine Goes.by (fun _ k => XS.iload X2.here hx rfl (hb hby at_37) rfl k) ?_
    show Goes p.tables e below (T2.setTop (mkF m 39 #[.val (.int pn), .val (.int pb0), .val (.int pb1), .val (.int pb2), .val (.int pb3), .val (.int (0 : Int32)), .val (.ref b2), .unset, .unset, .unset, .unset, .unset, .unset, .unset, .unset, .unset, .unset, .unset] [(.int (0 : Int32))])) _
    refine Goes.by (fun _ k => XS.iconst X2.here hx rfl (hb hby at_39) k) ?_
    show Goes p.tables e below (T2.setTop (mkF m 40 #[.val (.int pn), .val (.int pb0), .val (.int pb1), .val (.int pb2), .val (.int pb3), .val (.int (0 : Int32)), .val (.ref b2), .unset, .unset, .unset, .unset, .unset, .unset, .unset, .unset, .unset, .unset, .unset] [(.int (2 : Int32)), (.int (0 : Int32))])) _
    refine Goes.by (fun _ k => XS.icmpYes X2.here hx rfl (pc0 := 40) (pc' := 49) rfl (hb hby at_40) rfl (flt (by decide : ¬ ((2 : Int32) < (0 : Int32)))).2.2.2 (by decide) (by decide) k) ?_
    show Goes p.tables e below (T2.setTop (mkF m 49 #[.val (.int pn), .val (.int pb0), .val (.int pb1), .val (.int pb2), .val (.int pb3), .val (.int (0 : Int32)), .val (.ref b2), .unset, .unset, .unset, .unset, .unset, .unset, .unset, .unset, .unset, .unset, .unset] [])) _
    refine Goes.by (fun _ k => XS.iload X2.here hx rfl (hb hby at_49) rfl k) ?_
    show Goes p.tables e below (T2.setTop (mkF m 51 #[.val (.int pn), .val (.int pb0), .val (.int pb1), .val (.int pb2), .val (.int pb3), .val (.int (0 : Int32)), .val (.ref b2), .unset, .unset, .unset, .unset, .unset, .unset, .unset, .unset, .unset, .unset, .unset] [(.int (0 : Int32))])) _
    refine Goes.by (fun _ k => XS.iconst X2.here hx rfl (hb hby at_51) k) ?_
    show Goes p.tables e below (T2.setTop (mkF m 52 #[.val (.int pn), .val (.int pb0), .val (.int pb1), .val (.int pb2), .val (.int pb3), .val (.int (0 : Int32)), .val (.ref b2), .unset, .unset, .unset, .unset, .unset, .unset, .unset, .unset, .unset, .unset, .unset] [(.int (3 : Int32)), (.int (0 : Int32))])) _
    refine Goes.by (fun _ k => XS.icmpYes X2.here hx rfl (pc0 := 52) (pc' := 62) rfl (hb hby at_52) rfl (flt (by decide : ¬ ((3 : Int32) < (0 : Int32)))).2.2.2 (by decide) (by decide) k) ?_
    show Goes p.tables e below (T2.setTop (mkF m 62 #[.val (.int pn), .val (.int pb0), .val (.int pb1), .val (.int pb2), .val (.int pb3), .val (.int (0 : Int32)), .val (.ref b2), .unset, .unset, .unset, .unset, .unset, .unset, .unset, .unset, .unset, .unset, .unset] [])) _
    refine Goes.by (fun _ k => XS.iloadN X2.here hx rfl (hb hby at_62) rfl k) ?_
    show Goes p.tables e below (T2.setTop (mkF m 63 #[.val (.int pn), .val (.int pb0), .val (.int pb1), .val (.int pb2), .val (.int pb3), .val (.int (0 : Int32)), .val (.ref b2), .unset, .unset, .unset, .unset, .unset, .unset, .unset, .unset, .unset, .unset, .unset] [(.int pb0)])) _
    refine Goes.by (fun _ k => XS.sipush X2.here hx rfl (hb hby at_63) k) ?_
    show Goes p.tables e below (T2.setTop (mkF m 66 #[.val (.int pn), .val (.int pb0), .val (.int pb1), .val (.int pb2), .val (.int pb3), .val (.int (0 : Int32)), .val (.ref b2), .unset, .unset, .unset, .unset, .unset, .unset, .unset, .unset, .unset, .unset, .unset] [(.int (255 : Int32)), (.int pb0)])) _
    refine Goes.by (fun _ k => XS.iand X2.here hx rfl (hb hby at_66) rfl k) ?_
    show Goes p.tables e below (T2.setTop (mkF m 67 #[.val (.int pn), .val (.int pb0), .val (.int pb1), .val (.int pb2), .val (.int pb3), .val (.int (0 : Int32)), .val (.ref b2), .unset, .unset, .unset, .unset, .unset, .unset, .unset, .unset, .unset, .unset, .unset] [(.int (pb0 &&& (255 : Int32)))])) _
    refine Goes.by (fun _ k => XS.i2l X2.here hx rfl (hb hby at_67) rfl k) ?_
    show Goes p.tables e below (T2.setTop (mkF m 68 #[.val (.int pn), .val (.int pb0), .val (.int pb1), .val (.int pb2), .val (.int pb3), .val (.int (0 : Int32)), .val (.ref b2), .unset, .unset, .unset, .unset, .unset, .unset, .unset, .unset, .unset, .unset, .unset] [(.long ((pb0 &&& (255 : Int32)).toInt64))])) _
    obtain ⟨x3, hx3⟩ : ∃ z : Int64, z = ((pb0 &&& (255 : Int32)).toInt64) := ⟨_, rfl⟩
    refine Goes.by (fun _ k => XS.lstore X2.here hx rfl (hb hby at_68) rfl (l' := #[.val (.int pn), .val (.int pb0), .val (.int pb1), .val (.int pb2), .val (.int pb3), .val (.int (0 : Int32)), .val (.ref b2), .val (.long x3), .second, .unset, .unset, .unset, .unset, .unset, .unset, .unset, .unset, .unset]) (by rw [hx3]; rfl) k) ?_
    show Goes p.tables e below (T2.setTop (mkF m 70 #[.val (.int pn), .val (.int pb0), .val (.int pb1), .val (.int pb2), .val (.int pb3), .val (.int (0 : Int32)), .val (.ref b2), .val (.long x3), .second, .unset, .unset, .unset, .unset, .unset, .unset, .unset, .unset, .unset] [])) _
    refine Goes.by (fun _ k => XS.iloadN X2.here hx rfl (hb hby at_70) rfl k) ?_
    show Goes p.tables e below (T2.setTop (mkF m 71 #[.val (.int pn), .val (.int pb0), .val (.int pb1), .val (.int pb2), .val (.int pb3), .val (.int (0 : Int32)), .val (.ref b2), .val (.long x3), .second, .unset, .unset, .unset, .unset, .unset, .unset, .unset, .unset, .unset] [(.int pb1)])) _
    refine Goes.by (fun _ k => XS.sipush X2.here hx rfl (hb hby at_71) k) ?_
    show Goes p.tables e below (T2.setTop (mkF m 74 #[.val (.int pn), .val (.int pb0), .val (.int pb1), .val (.int pb2), .val (.int pb3), .val (.int (0 : Int32)), .val (.ref b2), .val (.long x3), .second, .unset, .unset, .unset, .unset, .unset, .unset, .unset, .unset, .unset] [(.int (255 : Int32)), (.int pb1)])) _
    refine Goes.by (fun _ k => XS.iand X2.here hx rfl (hb hby at_74) rfl k) ?_
    show Goes p.tables e below (T2.setTop (mkF m 75 #[.val (.int pn), .val (.int pb0), .val (.int pb1), .val (.int pb2), .val (.int pb3), .val (.int (0 : Int32)), .val (.ref b2), .val (.long x3), .second, .unset, .unset, .unset, .unset, .unset, .unset, .unset, .unset, .unset] [(.int (pb1 &&& (255 : Int32)))])) _
    refine Goes.by (fun _ k => XS.i2l X2.here hx rfl (hb hby at_75) rfl k) ?_
    show Goes p.tables e below (T2.setTop (mkF m 76 #[.val (.int pn), .val (.int pb0), .val (.int pb1), .val (.int pb2), .val (.int pb3), .val (.int (0 : Int32)), .val (.ref b2), .val (.long x3), .second, .unset, .unset, .unset, .unset, .unset, .unset, .unset, .unset, .unset] [(.long ((pb1 &&& (255 : Int32)).toInt64))])) _
    obtain ⟨x4, hx4⟩ : ∃ z : Int64, z = ((pb1 &&& (255 : Int32)).toInt64) := ⟨_, rfl⟩
    refine Goes.by (fun _ k => XS.lstore X2.here hx rfl (hb hby at_76) rfl (l' := #[.val (.int pn), .val (.int pb0), .val (.int pb1), .val (.int pb2), .val (.int pb3), .val (.int (0 : Int32)), .val (.ref b2), .val (.long x3), .second, .val (.long x4), .second, .unset, .unset, .unset, .unset, .unset, .unset, .unset]) (by rw [hx4]; rfl) k) ?_
    show Goes p.tables e below (T2.setTop (mkF m 78 #[.val (.int pn), .val (.int pb0), .val (.int pb1), .val (.int pb2), .val (.int pb3), .val (.int (0 : Int32)), .val (.ref b2), .val (.long x3), .second, .val (.long x4), .second, .unset, .unset, .unset, .unset, .unset, .unset, .unset] [])) _
    refine Goes.by (fun _ k => XS.iloadN X2.here hx rfl (hb hby at_78) rfl k) ?_
    show Goes p.tables e below (T2.setTop (mkF m 79 #[.val (.int pn), .val (.int pb0), .val (.int pb1), .val (.int pb2), .val (.int pb3), .val (.int (0 : Int32)), .val (.ref b2), .val (.long x3), .second, .val (.long x4), .second, .unset, .unset, .unset, .unset, .unset, .unset, .unset] [(.int pb2)])) _
    refine Goes.by (fun _ k => XS.sipush X2.here hx rfl (hb hby at_79) k) ?_
    show Goes p.tables e below (T2.setTop (mkF m 82 #[.val (.int pn), .val (.int pb0), .val (.int pb1), .val (.int pb2), .val (.int pb3), .val (.int (0 : Int32)), .val (.ref b2), .val (.long x3), .second, .val (.long x4), .second, .unset, .unset, .unset, .unset, .unset, .unset, .unset] [(.int (255 : Int32)), (.int pb2)])) _
    refine Goes.by (fun _ k => XS.iand X2.here hx rfl (hb hby at_82) rfl k) ?_
    show Goes p.tables e below (T2.setTop (mkF m 83 #[.val (.int pn), .val (.int pb0), .val (.int pb1), .val (.int pb2), .val (.int pb3), .val (.int (0 : Int32)), .val (.ref b2), .val (.long x3), .second, .val (.long x4), .second, .unset, .unset, .unset, .unset, .unset, .unset, .unset] [(.int (pb2 &&& (255 : Int32)))])) _
    refine Goes.by (fun _ k => XS.i2l X2.here hx rfl (hb hby at_83) rfl k) ?_
    show Goes p.tables e below (T2.setTop (mkF m 84 #[.val (.int pn), .val (.int pb0), .val (.int pb1), .val (.int pb2), .val (.int pb3), .val (.int (0 : Int32)), .val (.ref b2), .val (.long x3), .second, .val (.long x4), .second, .unset, .unset, .unset, .unset, .unset, .unset, .unset] [(.long ((pb2 &&& (255 : Int32)).toInt64))])) _
    obtain ⟨x5, hx5⟩ : ∃ z : Int64, z = ((pb2 &&& (255 : Int32)).toInt64) := ⟨_, rfl⟩
    refine Goes.by (fun _ k => XS.lstore X2.here hx rfl (hb hby at_84) rfl (l' := #[.val (.int pn), .val (.int pb0), .val (.int pb1), .val (.int pb2), .val (.int pb3), .val (.int (0 : Int32)), .val (.ref b2), .val (.long x3), .second, .val (.long x4), .second, .val (.long x5), .second, .unset, .unset, .unset, .unset, .unset]) (by rw [hx5]; rfl) k) ?_
    show Goes p.tables e below (T2.setTop (mkF m 86 #[.val (.int pn), .val (.int pb0), .val (.int pb1), .val (.int pb2), .val (.int pb3), .val (.int (0 : Int32)), .val (.ref b2), .val (.long x3), .second, .val (.long x4), .second, .val (.long x5), .second, .unset, .unset, .unset, .unset, .unset] [])) _
    refine Goes.by (fun _ k => XS.iload X2.here hx rfl (hb hby at_86) rfl k) ?_
    show Goes p.tables e below (T2.setTop (mkF m 88 #[.val (.int pn), .val (.int pb0), .val (.int pb1), .val (.int pb2), .val (.int pb3), .val (.int (0 : Int32)), .val (.ref b2), .val (.long x3), .second, .val (.long x4), .second, .val (.long x5), .second, .unset, .unset, .unset, .unset, .unset] [(.int pb3)])) _
    refine Goes.by (fun _ k => XS.sipush X2.here hx rfl (hb hby at_88) k) ?_
    show Goes p.tables e below (T2.setTop (mkF m 91 #[.val (.int pn), .val (.int pb0), .val (.int pb1), .val (.int pb2), .val (.int pb3), .val (.int (0 : Int32)), .val (.ref b2), .val (.long x3), .second, .val (.long x4), .second, .val (.long x5), .second, .unset, .unset, .unset, .unset, .unset] [(.int (255 : Int32)), (.int pb3)])) _
    refine Goes.by (fun _ k => XS.iand X2.here hx rfl (hb hby at_91) rfl k) ?_
    show Goes p.tables e below (T2.setTop (mkF m 92 #[.val (.int pn), .val (.int pb0), .val (.int pb1), .val (.int pb2), .val (.int pb3), .val (.int (0 : Int32)), .val (.ref b2), .val (.long x3), .second, .val (.long x4), .second, .val (.long x5), .second, .unset, .unset, .unset, .unset, .unset] [(.int (pb3 &&& (255 : Int32)))])) _
    refine Goes.by (fun _ k => XS.i2l X2.here hx rfl (hb hby at_92) rfl k) ?_
    show Goes p.tables e below (T2.setTop (mkF m 93 #[.val (.int pn), .val (.int pb0), .val (.int pb1), .val (.int pb2), .val (.int pb3), .val (.int (0 : Int32)), .val (.ref b2), .val (.long x3), .second, .val (.long x4), .second, .val (.long x5), .second, .unset, .unset, .unset, .unset, .unset] [(.long ((pb3 &&& (255 : Int32)).toInt64))])) _
    obtain ⟨x6, hx6⟩ : ∃ z : Int64, z = ((pb3 &&& (255 : Int32)).toInt64) := ⟨_, rfl⟩
    refine Goes.by (fun _ k => XS.lstore X2.here hx rfl (hb hby at_93) rfl (l' := #[.val (.int pn), .val (.int pb0), .val (.int pb1), .val (.int pb2), .val (.int pb3), .val (.int (0 : Int32)), .val (.ref b2), .val (.long x3), .second, .val (.long x4), .second, .val (.long x5), .second, .val (.long x6), .second, .unset, .unset, .unset]) (by rw [hx6]; rfl) k) ?_
    show Goes p.tables e below (T2.setTop (mkF m 95 #[.val (.int pn), .val (.int pb0), .val (.int pb1), .val (.int pb2), .val (.int pb3), .val (.int (0 : Int32)), .val (.ref b2), .val (.long x3), .second, .val (.long x4), .second, .val (.long x5), .second, .val (.long x6), .second, .unset, .unset, .unset] [])) _
    refine Goes.by (fun _ k => XS.iload X2.here hx rfl (hb hby at_95) rfl k) ?_
    show Goes p.tables e below (T2.setTop (mkF m 97 #[.val (.int pn), .val (.int pb0), .val (.int pb1), .val (.int pb2), .val (.int pb3), .val (.int (0 : Int32)), .val (.ref b2), .val (.long x3), .second, .val (.long x4), .second, .val (.long x5), .second, .val (.long x6), .second, .unset, .unset, .unset] [(.int (0 : Int32))])) _
    refine Goes.by (fun _ k => XS.ifNo X2.here hx rfl (hb hby at_97) rfl ((if0 _ _).trans (teq (by decide : (0 : Int32) = (0 : Int32))).2) k) ?_
    show Goes p.tables e below (T2.setTop (mkF m 100 #[.val (.int pn), .val (.int pb0), .val (.int pb1), .val (.int pb2), .val (.int pb3), .val (.int (0 : Int32)), .val (.ref b2), .val (.long x3), .second, .val (.long x4), .second, .val (.long x5), .second, .val (.long x6), .second, .unset, .unset, .unset] [])) _
    refine Goes.by (fun _ k => XS.lconst X2.here hx rfl (hb hby at_100) k) ?_
    show Goes p.tables e below (T2.setTop (mkF m 101 #[.val (.int pn), .val (.int pb0), .val (.int pb1), .val (.int pb2), .val (.int pb3), .val (.int (0 : Int32)), .val (.ref b2), .val (.long x3), .second, .val (.long x4), .second, .val (.long x5), .second, .val (.long x6), .second, .unset, .unset, .unset] [(.long (0 : Int64))])) _
    refine Goes.by (fun _ k => XS.lstore X2.here hx rfl (hb hby at_101) rfl (l' := #[.val (.int pn), .val (.int pb0), .val (.int pb1), .val (.int pb2), .val (.int pb3), .val (.int (0 : Int32)), .val (.ref b2), .val (.long x3), .second, .val (.long x4), .second, .val (.long x5), .second, .val (.long x6), .second, .val (.long (0 : Int64)), .second, .unset]) rfl k) ?_
    show Goes p.tables e below (T2.setTop (mkF m 103 #[.val (.int pn), .val (.int pb0), .val (.int pb1), .val (.int pb2), .val (.int pb3), .val (.int (0 : Int32)), .val (.ref b2), .val (.long x3), .second, .val (.long x4), .second, .val (.long x5), .second, .val (.long x6), .second, .val (.long (0 : Int64)), .second, .unset] [])) _
    refine Goes.by (fun _ k => XS.goto X2.here hx rfl (pc0 := 103) (pc' := 191) rfl (hb hby at_103) (by decide) (by decide) k) ?_
    show Goes p.tables e below (T2.setTop (mkF m 191 #[.val (.int pn), .val (.int pb0), .val (.int pb1), .val (.int pb2), .val (.int pb3), .val (.int (0 : Int32)), .val (.ref b2), .val (.long x3), .second, .val (.long x4), .second, .val (.long x5), .second, .val (.long x6), .second, .val (.long (0 : Int64)), .second, .unset] [])) _
    refine Goes.by (fun _ k => XS.aload X2.here hx rfl (hb hby at_191) rfl rfl k) ?_
    show Goes p.tables e below (T2.setTop (mkF m 193 #[.val (.int pn), .val (.int pb0), .val (.int pb1), .val (.int pb2), .val (.int pb3), .val (.int (0 : Int32)), .val (.ref b2), .val (.long x3), .second, .val (.long x4), .second, .val (.long x5), .second, .val (.long x6), .second, .val (.long (0 : Int64)), .second, .unset] [(.ref b2)])) _
    obtain ⟨_, _, ⟨T7, L7, k7, n7⟩, -, X7, ⟨Lc7, hQ7, l7, y7, z7⟩, st7⟩ := Jvm.LawKit.callS X2 hx (y := (⟨"castkey/card/ModeObjects", "number", "([B)I"⟩ : MethodName)) hown (mvT hZ (hw _ (List.mem_of_getElem? (i := 2) rfl))) (mvT hZ (hw _ (List.mem_of_getElem? (i := 3) rfl))) (mvT hZ (hw _ (List.mem_of_getElem? (i := 4) rfl))) (mvT hZ (hw _ (List.mem_of_getElem? (i := 5) rfl))) (by decide) (backOf (W := 0) (rm1n0 l Z a0 hw [] b2 (fun _ => (0 : Int32)) h2 n0 Zs2 A_b2) hZ (hw _ (List.mem_of_getElem? (i := 5) rfl)) (hw _ (List.mem_of_getElem? (i := 4) rfl)) (by decide) (by decide)) (g := (mkF m 193 #[.val (.int pn), .val (.int pb0), .val (.int pb1), .val (.int pb2), .val (.int pb3), .val (.int (0 : Int32)), .val (.ref b2), .val (.long x3), .second, .val (.long x4), .second, .val (.long x5), .second, .val (.long x6), .second, .val (.long (0 : Int64)), .second, .unset] [(.ref b2)])) rfl (by rw [hml]; rfl) (argsL := [(.ref b2)]) (rest := []) (lenOf pd_0 rfl) rfl (by show 2 * 0 + _ ≤ _; exact Nat.le_of_eq rfl) (hb hby at_193) (fun _ _ => ⟨rfl, e2, (by decide : 1 + 0 ≤ _), (by decide : 0 + 0 ≤ _)⟩)
    dsimp only [Pt.U, Pt.locs, Pt.cells, Pt.slots] at X7 l7 y7 z7 st7 hQ7
    subst l7 y7 z7
    obtain ⟨rfl, N7q, e7⟩ := hQ7
    have N7 := Fr.app N0 N7q
    refine Goes.by st7 ?_
    show Goes p.tables e below (T7.setTop (mkF m 196 #[.val (.int pn), .val (.int pb0), .val (.int pb1), .val (.int pb2), .val (.int pb3), .val (.int (0 : Int32)), .val (.ref b2), .val (.long x3), .second, .val (.long x4), .second, .val (.long x5), .second, .val (.long x6), .second, .val (.long (0 : Int64)), .second, .unset] [(.int (0 : Int32))])) _
    refine Goes.by (fun _ k => XS.istore X7.here hx rfl (hb hby at_196) rfl (l' := #[.val (.int pn), .val (.int pb0), .val (.int pb1), .val (.int pb2), .val (.int pb3), .val (.int (0 : Int32)), .val (.ref b2), .val (.long x3), .second, .val (.long x4), .second, .val (.long x5), .second, .val (.long x6), .second, .val (.long (0 : Int64)), .second, .val (.int (0 : Int32))]) rfl k) ?_
    show Goes p.tables e below (T7.setTop (mkF m 198 #[.val (.int pn), .val (.int pb0), .val (.int pb1), .val (.int pb2), .val (.int pb3), .val (.int (0 : Int32)), .val (.ref b2), .val (.long x3), .second, .val (.long x4), .second, .val (.long x5), .second, .val (.long x6), .second, .val (.long (0 : Int64)), .second, .val (.int (0 : Int32))] [])) _
    refine Goes.by (fun _ k => XS.iload X7.here hx rfl (hb hby at_198) rfl k) ?_
    show Goes p.tables e below (T7.setTop (mkF m 200 #[.val (.int pn), .val (.int pb0), .val (.int pb1), .val (.int pb2), .val (.int pb3), .val (.int (0 : Int32)), .val (.ref b2), .val (.long x3), .second, .val (.long x4), .second, .val (.long x5), .second, .val (.long x6), .second, .val (.long (0 : Int64)), .second, .val (.int (0 : Int32))] [(.int (0 : Int32))])) _
    refine Goes.by (fun _ k => XS.lload X7.here hx rfl (hb hby at_200) rfl k) ?_
    show Goes p.tables e below (T7.setTop (mkF m 202 #[.val (.int pn), .val (.int pb0), .val (.int pb1), .val (.int pb2), .val (.int pb3), .val (.int (0 : Int32)), .val (.ref b2), .val (.long x3), .second, .val (.long x4), .second, .val (.long x5), .second, .val (.long x6), .second, .val (.long (0 : Int64)), .second, .val (.int (0 : Int32))] [(.long (0 : Int64)), (.int (0 : Int32))])) _
    refine Goes.by (fun _ k => XS.l2i X7.here hx rfl (hb hby at_202) rfl k) ?_
    show Goes p.tables e below (T7.setTop (mkF m 203 #[.val (.int pn), .val (.int pb0), .val (.int pb1), .val (.int pb2), .val (.int pb3), .val (.int (0 : Int32)), .val (.ref b2), .val (.long x3), .second, .val (.long x4), .second, .val (.long x5), .second, .val (.long x6), .second, .val (.long (0 : Int64)), .second, .val (.int (0 : Int32))] [(.int ((0 : Int64).toInt32)), (.int (0 : Int32))])) _
    refine Goes.by (fun _ k => XS.icmpNo X7.here hx rfl (hb hby at_203) rfl (teq (rfl : (0 : Int32) = ((0 : Int64).toInt32))).2 k) ?_
    show Goes p.tables e below (T7.setTop (mkF m 206 #[.val (.int pn), .val (.int pb0), .val (.int pb1), .val (.int pb2), .val (.int pb3), .val (.int (0 : Int32)), .val (.ref b2), .val (.long x3), .second, .val (.long x4), .second, .val (.long x5), .second, .val (.long x6), .second, .val (.long (0 : Int64)), .second, .val (.int (0 : Int32))] [])) _
    refine Goes.by (fun _ k => XS.iconst X7.here hx rfl (hb hby at_206) k) ?_
    show Goes p.tables e below (T7.setTop (mkF m 207 #[.val (.int pn), .val (.int pb0), .val (.int pb1), .val (.int pb2), .val (.int pb3), .val (.int (0 : Int32)), .val (.ref b2), .val (.long x3), .second, .val (.long x4), .second, .val (.long x5), .second, .val (.long x6), .second, .val (.long (0 : Int64)), .second, .val (.int (0 : Int32))] [(.int (1 : Int32))])) _
    refine Goes.by (fun _ k => XS.goto X7.here hx rfl (pc0 := 207) (pc' := 211) rfl (hb hby at_207) (by decide) (by decide) k) ?_
    show Goes p.tables e below (T7.setTop (mkF m 211 #[.val (.int pn), .val (.int pb0), .val (.int pb1), .val (.int pb2), .val (.int pb3), .val (.int (0 : Int32)), .val (.ref b2), .val (.long x3), .second, .val (.long x4), .second, .val (.long x5), .second, .val (.long x6), .second, .val (.long (0 : Int64)), .second, .val (.int (0 : Int32))] [(.int (1 : Int32))])) _
    obtain ⟨fs, hr, hrun, hended, hW, hsame⟩ := X7.leave (v := some (.int (1 : Int32))) (fun h => by rw [Bd.returns] at h; cases h)
    refine ⟨_, _, retN X7 hx (t := .boolean) Bd.returns (by simp) (hb hby at_211) hr, hrun, hended, _, _, rfl, ?_, ⟨_, rfl⟩, hW, hsame.mono (by decide) (by decide)⟩
    show Q0 Z pn pb0 pb1 pb2 pb3 h0 n0 _ T7.heap _
    rw [e7]
    exact ⟨rfl, N7⟩
  · subst qc
    show Goes p.tables e below (s₁.setTop (mkF m 8 #[.val (.int pn), .val (.int pb0), .val (.int pb1), .val (.int pb2), .val (.int pb3), .val (.int (1 : Int32)), .unset, .unset, .unset, .unset, .unset, .unset, .unset, .unset, .unset, .unset, .unset, .unset] [])) _
    refine Goes.by (fun _ k => XS.iload X0.here hx rfl (hb hby at_8) rfl k) ?_
    show Goes p.tables e below (s₁.setTop (mkF m 10 #[.val (.int pn), .val (.int pb0), .val (.int pb1), .val (.int pb2), .val (.int pb3), .val (.int (1 : Int32)), .unset, .unset, .unset, .unset, .unset, .unset, .unset, .unset, .unset, .unset, .unset, .unset] [(.int (1 : Int32))])) _
    obtain ⟨T8, h8, X8, e8, E8, A8, st8⟩ := nwA (n := 1) (cap := 1) (fr := (mkF m 10 #[.val (.int pn), .val (.int pb0), .val (.int pb1), .val (.int pb2), .val (.int pb3), .val (.int (1 : Int32)), .unset, .unset, .unset, .unset, .unset, .unset, .unset, .unset, .unset, .unset, .unset, .unset] [(.int (1 : Int32))])) X0 hx hZ (hw _ (List.mem_of_getElem? (i := 1) rfl)) e0 (by decide) (by decide) (by decide) (by decide) (by decide) rfl rfl (hb hby at_10)
    obtain ⟨b8, g8⟩ : ∃ z, z = h0.size := ⟨_, rfl⟩
    rw [← g8] at A8 st8
    have g_b8 : n0 ≤ b8 := Nat.le_trans Z0 (Nat.le_of_eq g8.symm)
    have sz_b8 : h0.size ≤ b8 := Nat.le_trans (Keep.refl h0 []).1 (Nat.le_of_eq g8.symm)
    have Zs8 : n0 ≤ h8.size := Nat.le_trans Z0 E8.1
    have K8 : Keep h0 h8 [] := (Keep.refl h0 []).ext E8
    refine Goes.by st8 ?_
    have A_b8 : AI Z h8 b8 .byte 1 (fun _ => (0 : Int32)) := A8
    show Goes p.tables e below (T8.setTop (mkF m 12 #[.val (.int pn), .val (.int pb0), .val (.int pb1), .val (.int pb2), .val (.int pb3), .val (.int (1 : Int32)), .unset, .unset, .unset, .unset, .unset, .unset, .unset, .unset, .unset, .unset, .unset, .unset] [(.ref b8)])) _
    refine Goes.by (fun _ k => XS.astore X8.here hx rfl (hb hby at_12) rfl rfl (l' := #[.val (.int pn), .val (.int pb0), .val (.int pb1), .val (.int pb2), .val (.int pb3), .val (.int (1 : Int32)), .val (.ref b8), .unset, .unset, .unset, .unset, .unset, .unset, .unset, .unset, .unset, .unset, .unset]) rfl k) ?_
    show Goes p.tables e below (T8.setTop (mkF m 14 #[.val (.int pn), .val (.int pb0), .val (.int pb1), .val (.int pb2), .val (.int pb3), .val (.int (1 : Int32)), .val (.ref b8), .unset, .unset, .unset, .unset, .unset, .unset, .unset, .unset, .unset, .unset, .unset] [])) _
    refine Goes.by (fun _ k => XS.iload X8.here hx rfl (hb hby at_14) rfl k) ?_
    show Goes p.tables e below (T8.setTop (mkF m 16 #[.val (.int pn), .val (.int pb0), .val (.int pb1), .val (.int pb2), .val (.int pb3), .val (.int (1 : Int32)), .val (.ref b8), .unset, .unset, .unset, .unset, .unset, .unset, .unset, .unset, .unset, .unset, .unset] [(.int (1 : Int32))])) _
    refine Goes.by (fun _ k => XS.ifNo X8.here hx rfl (hb hby at_16) rfl ((if0 _ _).trans (tlt (by decide : (0 : Int32) < (1 : Int32))).2.2.2) k) ?_
    show Goes p.tables e below (T8.setTop (mkF m 19 #[.val (.int pn), .val (.int pb0), .val (.int pb1), .val (.int pb2), .val (.int pb3), .val (.int (1 : Int32)), .val (.ref b8), .unset, .unset, .unset, .unset, .unset, .unset, .unset, .unset, .unset, .unset, .unset] [])) _
    refine Goes.by (fun _ k => XS.aload X8.here hx rfl (hb hby at_19) rfl rfl k) ?_
    show Goes p.tables e below (T8.setTop (mkF m 21 #[.val (.int pn), .val (.int pb0), .val (.int pb1), .val (.int pb2), .val (.int pb3), .val (.int (1 : Int32)), .val (.ref b8), .unset, .unset, .unset, .unset, .unset, .unset, .unset, .unset, .unset, .unset, .unset] [(.ref b8)])) _
    refine Goes.by (fun _ k => XS.iconst X8.here hx rfl (hb hby at_21) k) ?_
    show Goes p.tables e below (T8.setTop (mkF m 22 #[.val (.int pn), .val (.int pb0), .val (.int pb1), .val (.int pb2), .val (.int pb3), .val (.int (1 : Int32)), .val (.ref b8), .unset, .unset, .unset, .unset, .unset, .unset, .unset, .unset, .unset, .unset, .unset] [(.int (0 : Int32)), (.ref b8)])) _
    refine Goes.by (fun _ k => XS.iloadN X8.here hx rfl (hb hby at_22) rfl k) ?_
    show Goes p.tables e below (T8.setTop (mkF m 23 #[.val (.int pn), .val (.int pb0), .val (.int pb1), .val (.int pb2), .val (.int pb3), .val (.int (1 : Int32)), .val (.ref b8), .unset, .unset, .unset, .unset, .unset, .unset, .unset, .unset, .unset, .unset, .unset] [(.int pb0), (.int (0 : Int32)), (.ref b8)])) _
    refine Goes.by (fun _ k => XS.i2b X8.here hx rfl (hb hby at_23) rfl k) ?_
    show Goes p.tables e below (T8.setTop (mkF m 24 #[.val (.int pn), .val (.int pb0), .val (.int pb1), .val (.int pb2), .val (.int pb3), .val (.int (1 : Int32)), .val (.ref b8), .unset, .unset, .unset, .unset, .unset, .unset, .unset, .unset, .unset, .unset, .unset] [(.int (pb0.toInt8.toInt32)), (.int (0 : Int32)), (.ref b8)])) _
    obtain ⟨T9, h9, X9, e9, W9, A9, st9⟩ := stAB (fr := (mkF m 24 #[.val (.int pn), .val (.int pb0), .val (.int pb1), .val (.int pb2), .val (.int pb3), .val (.int (1 : Int32)), .val (.ref b8), .unset, .unset, .unset, .unset, .unset, .unset, .unset, .unset, .unset, .unset, .unset] [(.int (pb0.toInt8.toInt32)), (.int (0 : Int32)), (.ref b8)])) X8 hx hZ e8 A_b8 (i := 0) (by decide) (by decide) rfl rfl (hb hby at_24)
    refine Goes.by st9 ?_
    have A_b8 : AI Z h9 b8 .byte 1 (up (fun _ => (0 : Int32)) 0 ((pb0.toInt8.toInt32).toInt8.toInt32)) := A9
    have N9 := Fr.snoc X9 N0 g_b8
    have Zs9 : n0 ≤ h9.size := Nat.le_trans Zs8 (Keep.of_wr W9).1
    have K9 : Keep h0 h9 [] := K8.wr W9 (Or.inr sz_b8)
    show Goes p.tables e below (T9.setTop (mkF m 25 #[.val (.int pn), .val (.int pb0), .val (.int pb1), .val (.int pb2), .val (.int pb3), .val (.int (1 : Int32)), .val (.ref b8), .unset, .unset, .unset, .unset, .unset, .unset, .unset, .unset, .unset, .unset, .unset] [])) _
    refine Goes.by (fun _ k => XS.iload X9.here hx rfl (hb hby at_25) rfl k) ?_
    show Goes p.tables e below (T9.setTop (mkF m 27 #[.val (.int pn), .val (.int pb0), .val (.int pb1), .val (.int pb2), .val (.int pb3), .val (.int (1 : Int32)), .val (.ref b8), .unset, .unset, .unset, .unset, .unset, .unset, .unset, .unset, .unset, .unset, .unset] [(.int (1 : Int32))])) _
    refine Goes.by (fun _ k => XS.iconst X9.here hx rfl (hb hby at_27) k) ?_
    show Goes p.tables e below (T9.setTop (mkF m 28 #[.val (.int pn), .val (.int pb0), .val (.int pb1), .val (.int pb2), .val (.int pb3), .val (.int (1 : Int32)), .val (.ref b8), .unset, .unset, .unset, .unset, .unset, .unset, .unset, .unset, .unset, .unset, .unset] [(.int (1 : Int32)), (.int (1 : Int32))])) _
    refine Goes.by (fun _ k => XS.icmpYes X9.here hx rfl (pc0 := 28) (pc' := 37) rfl (hb hby at_28) rfl (flt (by decide : ¬ ((1 : Int32) < (1 : Int32)))).2.2.2 (by decide) (by decide) k) ?_
    show Goes p.tables e below (T9.setTop (mkF m 37 #[.val (.int pn), .val (.int pb0), .val (.int pb1), .val (.int pb2), .val (.int pb3), .val (.int (1 : Int32)), .val (.ref b8), .unset, .unset, .unset, .unset, .unset, .unset, .unset, .unset, .unset, .unset, .unset] [])) _
    refine Goes.by (fun _ k => XS.iload X9.here hx rfl (hb hby at_37) rfl k) ?_
    show Goes p.tables e below (T9.setTop (mkF m 39 #[.val (.int pn), .val (.int pb0), .val (.int pb1), .val (.int pb2), .val (.int pb3), .val (.int (1 : Int32)), .val (.ref b8), .unset, .unset, .unset, .unset, .unset, .unset, .unset, .unset, .unset, .unset, .unset] [(.int (1 : Int32))])) _
    refine Goes.by (fun _ k => XS.iconst X9.here hx rfl (hb hby at_39) k) ?_
    show Goes p.tables e below (T9.setTop (mkF m 40 #[.val (.int pn), .val (.int pb0), .val (.int pb1), .val (.int pb2), .val (.int pb3), .val (.int (1 : Int32)), .val (.ref b8), .unset, .unset, .unset, .unset, .unset, .unset, .unset, .unset, .unset, .unset, .unset] [(.int (2 : Int32)), (.int (1 : Int32))])) _
    refine Goes.by (fun _ k => XS.icmpYes X9.here hx rfl (pc0 := 40) (pc' := 49) rfl (hb hby at_40) rfl (flt (by decide : ¬ ((2 : Int32) < (1 : Int32)))).2.2.2 (by decide) (by decide) k) ?_
    show Goes p.tables e below (T9.setTop (mkF m 49 #[.val (.int pn), .val (.int pb0), .val (.int pb1), .val (.int pb2), .val (.int pb3), .val (.int (1 : Int32)), .val (.ref b8), .unset, .unset, .unset, .unset, .unset, .unset, .unset, .unset, .unset, .unset, .unset] [])) _
    refine Goes.by (fun _ k => XS.iload X9.here hx rfl (hb hby at_49) rfl k) ?_
    show Goes p.tables e below (T9.setTop (mkF m 51 #[.val (.int pn), .val (.int pb0), .val (.int pb1), .val (.int pb2), .val (.int pb3), .val (.int (1 : Int32)), .val (.ref b8), .unset, .unset, .unset, .unset, .unset, .unset, .unset, .unset, .unset, .unset, .unset] [(.int (1 : Int32))])) _
    refine Goes.by (fun _ k => XS.iconst X9.here hx rfl (hb hby at_51) k) ?_
    show Goes p.tables e below (T9.setTop (mkF m 52 #[.val (.int pn), .val (.int pb0), .val (.int pb1), .val (.int pb2), .val (.int pb3), .val (.int (1 : Int32)), .val (.ref b8), .unset, .unset, .unset, .unset, .unset, .unset, .unset, .unset, .unset, .unset, .unset] [(.int (3 : Int32)), (.int (1 : Int32))])) _
    refine Goes.by (fun _ k => XS.icmpYes X9.here hx rfl (pc0 := 52) (pc' := 62) rfl (hb hby at_52) rfl (flt (by decide : ¬ ((3 : Int32) < (1 : Int32)))).2.2.2 (by decide) (by decide) k) ?_
    show Goes p.tables e below (T9.setTop (mkF m 62 #[.val (.int pn), .val (.int pb0), .val (.int pb1), .val (.int pb2), .val (.int pb3), .val (.int (1 : Int32)), .val (.ref b8), .unset, .unset, .unset, .unset, .unset, .unset, .unset, .unset, .unset, .unset, .unset] [])) _
    refine Goes.by (fun _ k => XS.iloadN X9.here hx rfl (hb hby at_62) rfl k) ?_
    show Goes p.tables e below (T9.setTop (mkF m 63 #[.val (.int pn), .val (.int pb0), .val (.int pb1), .val (.int pb2), .val (.int pb3), .val (.int (1 : Int32)), .val (.ref b8), .unset, .unset, .unset, .unset, .unset, .unset, .unset, .unset, .unset, .unset, .unset] [(.int pb0)])) _
    refine Goes.by (fun _ k => XS.sipush X9.here hx rfl (hb hby at_63) k) ?_
    show Goes p.tables e below (T9.setTop (mkF m 66 #[.val (.int pn), .val (.int pb0), .val (.int pb1), .val (.int pb2), .val (.int pb3), .val (.int (1 : Int32)), .val (.ref b8), .unset, .unset, .unset, .unset, .unset, .unset, .unset, .unset, .unset, .unset, .unset] [(.int (255 : Int32)), (.int pb0)])) _
    refine Goes.by (fun _ k => XS.iand X9.here hx rfl (hb hby at_66) rfl k) ?_
    show Goes p.tables e below (T9.setTop (mkF m 67 #[.val (.int pn), .val (.int pb0), .val (.int pb1), .val (.int pb2), .val (.int pb3), .val (.int (1 : Int32)), .val (.ref b8), .unset, .unset, .unset, .unset, .unset, .unset, .unset, .unset, .unset, .unset, .unset] [(.int (pb0 &&& (255 : Int32)))])) _
    refine Goes.by (fun _ k => XS.i2l X9.here hx rfl (hb hby at_67) rfl k) ?_
    show Goes p.tables e below (T9.setTop (mkF m 68 #[.val (.int pn), .val (.int pb0), .val (.int pb1), .val (.int pb2), .val (.int pb3), .val (.int (1 : Int32)), .val (.ref b8), .unset, .unset, .unset, .unset, .unset, .unset, .unset, .unset, .unset, .unset, .unset] [(.long ((pb0 &&& (255 : Int32)).toInt64))])) _
    obtain ⟨x10, hx10⟩ : ∃ z : Int64, z = ((pb0 &&& (255 : Int32)).toInt64) := ⟨_, rfl⟩
    refine Goes.by (fun _ k => XS.lstore X9.here hx rfl (hb hby at_68) rfl (l' := #[.val (.int pn), .val (.int pb0), .val (.int pb1), .val (.int pb2), .val (.int pb3), .val (.int (1 : Int32)), .val (.ref b8), .val (.long x10), .second, .unset, .unset, .unset, .unset, .unset, .unset, .unset, .unset, .unset]) (by rw [hx10]; rfl) k) ?_
    show Goes p.tables e below (T9.setTop (mkF m 70 #[.val (.int pn), .val (.int pb0), .val (.int pb1), .val (.int pb2), .val (.int pb3), .val (.int (1 : Int32)), .val (.ref b8), .val (.long x10), .second, .unset, .unset, .unset, .unset, .unset, .unset, .unset, .unset, .unset] [])) _
    refine Goes.by (fun _ k => XS.iloadN X9.here hx rfl (hb hby at_70) rfl k) ?_
    show Goes p.tables e below (T9.setTop (mkF m 71 #[.val (.int pn), .val (.int pb0), .val (.int pb1), .val (.int pb2), .val (.int pb3), .val (.int (1 : Int32)), .val (.ref b8), .val (.long x10), .second, .unset, .unset, .unset, .unset, .unset, .unset, .unset, .unset, .unset] [(.int pb1)])) _
    refine Goes.by (fun _ k => XS.sipush X9.here hx rfl (hb hby at_71) k) ?_
    show Goes p.tables e below (T9.setTop (mkF m 74 #[.val (.int pn), .val (.int pb0), .val (.int pb1), .val (.int pb2), .val (.int pb3), .val (.int (1 : Int32)), .val (.ref b8), .val (.long x10), .second, .unset, .unset, .unset, .unset, .unset, .unset, .unset, .unset, .unset] [(.int (255 : Int32)), (.int pb1)])) _
    refine Goes.by (fun _ k => XS.iand X9.here hx rfl (hb hby at_74) rfl k) ?_
    show Goes p.tables e below (T9.setTop (mkF m 75 #[.val (.int pn), .val (.int pb0), .val (.int pb1), .val (.int pb2), .val (.int pb3), .val (.int (1 : Int32)), .val (.ref b8), .val (.long x10), .second, .unset, .unset, .unset, .unset, .unset, .unset, .unset, .unset, .unset] [(.int (pb1 &&& (255 : Int32)))])) _
    refine Goes.by (fun _ k => XS.i2l X9.here hx rfl (hb hby at_75) rfl k) ?_
    show Goes p.tables e below (T9.setTop (mkF m 76 #[.val (.int pn), .val (.int pb0), .val (.int pb1), .val (.int pb2), .val (.int pb3), .val (.int (1 : Int32)), .val (.ref b8), .val (.long x10), .second, .unset, .unset, .unset, .unset, .unset, .unset, .unset, .unset, .unset] [(.long ((pb1 &&& (255 : Int32)).toInt64))])) _
    obtain ⟨x11, hx11⟩ : ∃ z : Int64, z = ((pb1 &&& (255 : Int32)).toInt64) := ⟨_, rfl⟩
    refine Goes.by (fun _ k => XS.lstore X9.here hx rfl (hb hby at_76) rfl (l' := #[.val (.int pn), .val (.int pb0), .val (.int pb1), .val (.int pb2), .val (.int pb3), .val (.int (1 : Int32)), .val (.ref b8), .val (.long x10), .second, .val (.long x11), .second, .unset, .unset, .unset, .unset, .unset, .unset, .unset]) (by rw [hx11]; rfl) k) ?_
    show Goes p.tables e below (T9.setTop (mkF m 78 #[.val (.int pn), .val (.int pb0), .val (.int pb1), .val (.int pb2), .val (.int pb3), .val (.int (1 : Int32)), .val (.ref b8), .val (.long x10), .second, .val (.long x11), .second, .unset, .unset, .unset, .unset, .unset, .unset, .unset] [])) _
    refine Goes.by (fun _ k => XS.iloadN X9.here hx rfl (hb hby at_78) rfl k) ?_
    show Goes p.tables e below (T9.setTop (mkF m 79 #[.val (.int pn), .val (.int pb0), .val (.int pb1), .val (.int pb2), .val (.int pb3), .val (.int (1 : Int32)), .val (.ref b8), .val (.long x10), .second, .val (.long x11), .second, .unset, .unset, .unset, .unset, .unset, .unset, .unset] [(.int pb2)])) _
    refine Goes.by (fun _ k => XS.sipush X9.here hx rfl (hb hby at_79) k) ?_
    show Goes p.tables e below (T9.setTop (mkF m 82 #[.val (.int pn), .val (.int pb0), .val (.int pb1), .val (.int pb2), .val (.int pb3), .val (.int (1 : Int32)), .val (.ref b8), .val (.long x10), .second, .val (.long x11), .second, .unset, .unset, .unset, .unset, .unset, .unset, .unset] [(.int (255 : Int32)), (.int pb2)])) _
    refine Goes.by (fun _ k => XS.iand X9.here hx rfl (hb hby at_82) rfl k) ?_
    show Goes p.tables e below (T9.setTop (mkF m 83 #[.val (.int pn), .val (.int pb0), .val (.int pb1), .val (.int pb2), .val (.int pb3), .val (.int (1 : Int32)), .val (.ref b8), .val (.long x10), .second, .val (.long x11), .second, .unset, .unset, .unset, .unset, .unset, .unset, .unset] [(.int (pb2 &&& (255 : Int32)))])) _
    refine Goes.by (fun _ k => XS.i2l X9.here hx rfl (hb hby at_83) rfl k) ?_
    show Goes p.tables e below (T9.setTop (mkF m 84 #[.val (.int pn), .val (.int pb0), .val (.int pb1), .val (.int pb2), .val (.int pb3), .val (.int (1 : Int32)), .val (.ref b8), .val (.long x10), .second, .val (.long x11), .second, .unset, .unset, .unset, .unset, .unset, .unset, .unset] [(.long ((pb2 &&& (255 : Int32)).toInt64))])) _
    obtain ⟨x12, hx12⟩ : ∃ z : Int64, z = ((pb2 &&& (255 : Int32)).toInt64) := ⟨_, rfl⟩
    refine Goes.by (fun _ k => XS.lstore X9.here hx rfl (hb hby at_84) rfl (l' := #[.val (.int pn), .val (.int pb0), .val (.int pb1), .val (.int pb2), .val (.int pb3), .val (.int (1 : Int32)), .val (.ref b8), .val (.long x10), .second, .val (.long x11), .second, .val (.long x12), .second, .unset, .unset, .unset, .unset, .unset]) (by rw [hx12]; rfl) k) ?_
    show Goes p.tables e below (T9.setTop (mkF m 86 #[.val (.int pn), .val (.int pb0), .val (.int pb1), .val (.int pb2), .val (.int pb3), .val (.int (1 : Int32)), .val (.ref b8), .val (.long x10), .second, .val (.long x11), .second, .val (.long x12), .second, .unset, .unset, .unset, .unset, .unset] [])) _
    refine Goes.by (fun _ k => XS.iload X9.here hx rfl (hb hby at_86) rfl k) ?_
    show Goes p.tables e below (T9.setTop (mkF m 88 #[.val (.int pn), .val (.int pb0), .val (.int pb1), .val (.int pb2), .val (.int pb3), .val (.int (1 : Int32)), .val (.ref b8), .val (.long x10), .second, .val (.long x11), .second, .val (.long x12), .second, .unset, .unset, .unset, .unset, .unset] [(.int pb3)])) _
    refine Goes.by (fun _ k => XS.sipush X9.here hx rfl (hb hby at_88) k) ?_
    show Goes p.tables e below (T9.setTop (mkF m 91 #[.val (.int pn), .val (.int pb0), .val (.int pb1), .val (.int pb2), .val (.int pb3), .val (.int (1 : Int32)), .val (.ref b8), .val (.long x10), .second, .val (.long x11), .second, .val (.long x12), .second, .unset, .unset, .unset, .unset, .unset] [(.int (255 : Int32)), (.int pb3)])) _
    refine Goes.by (fun _ k => XS.iand X9.here hx rfl (hb hby at_91) rfl k) ?_
    show Goes p.tables e below (T9.setTop (mkF m 92 #[.val (.int pn), .val (.int pb0), .val (.int pb1), .val (.int pb2), .val (.int pb3), .val (.int (1 : Int32)), .val (.ref b8), .val (.long x10), .second, .val (.long x11), .second, .val (.long x12), .second, .unset, .unset, .unset, .unset, .unset] [(.int (pb3 &&& (255 : Int32)))])) _
    refine Goes.by (fun _ k => XS.i2l X9.here hx rfl (hb hby at_92) rfl k) ?_
    show Goes p.tables e below (T9.setTop (mkF m 93 #[.val (.int pn), .val (.int pb0), .val (.int pb1), .val (.int pb2), .val (.int pb3), .val (.int (1 : Int32)), .val (.ref b8), .val (.long x10), .second, .val (.long x11), .second, .val (.long x12), .second, .unset, .unset, .unset, .unset, .unset] [(.long ((pb3 &&& (255 : Int32)).toInt64))])) _
    obtain ⟨x13, hx13⟩ : ∃ z : Int64, z = ((pb3 &&& (255 : Int32)).toInt64) := ⟨_, rfl⟩
    refine Goes.by (fun _ k => XS.lstore X9.here hx rfl (hb hby at_93) rfl (l' := #[.val (.int pn), .val (.int pb0), .val (.int pb1), .val (.int pb2), .val (.int pb3), .val (.int (1 : Int32)), .val (.ref b8), .val (.long x10), .second, .val (.long x11), .second, .val (.long x12), .second, .val (.long x13), .second, .unset, .unset, .unset]) (by rw [hx13]; rfl) k) ?_
    show Goes p.tables e below (T9.setTop (mkF m 95 #[.val (.int pn), .val (.int pb0), .val (.int pb1), .val (.int pb2), .val (.int pb3), .val (.int (1 : Int32)), .val (.ref b8), .val (.long x10), .second, .val (.long x11), .second, .val (.long x12), .second, .val (.long x13), .second, .unset, .unset, .unset] [])) _
    refine Goes.by (fun _ k => XS.iload X9.here hx rfl (hb hby at_95) rfl k) ?_
    show Goes p.tables e below (T9.setTop (mkF m 97 #[.val (.int pn), .val (.int pb0), .val (.int pb1), .val (.int pb2), .val (.int pb3), .val (.int (1 : Int32)), .val (.ref b8), .val (.long x10), .second, .val (.long x11), .second, .val (.long x12), .second, .val (.long x13), .second, .unset, .unset, .unset] [(.int (1 : Int32))])) _
    refine Goes.by (fun _ k => XS.ifYes X9.here hx rfl (pc0 := 97) (pc' := 106) rfl (hb hby at_97) rfl ((if0 _ _).trans (feq (by decide : ¬ ((1 : Int32) = (0 : Int32)))).2) (by decide) (by decide) k) ?_
    show Goes p.tables e below (T9.setTop (mkF m 106 #[.val (.int pn), .val (.int pb0), .val (.int pb1), .val (.int pb2), .val (.int pb3), .val (.int (1 : Int32)), .val (.ref b8), .val (.long x10), .second, .val (.long x11), .second, .val (.long x12), .second, .val (.long x13), .second, .unset, .unset, .unset] [])) _
    refine Goes.by (fun _ k => XS.iload X9.here hx rfl (hb hby at_106) rfl k) ?_
    show Goes p.tables e below (T9.setTop (mkF m 108 #[.val (.int pn), .val (.int pb0), .val (.int pb1), .val (.int pb2), .val (.int pb3), .val (.int (1 : Int32)), .val (.ref b8), .val (.long x10), .second, .val (.long x11), .second, .val (.long x12), .second, .val (.long x13), .second, .unset, .unset, .unset] [(.int (1 : Int32))])) _
    refine Goes.by (fun _ k => XS.iconst X9.here hx rfl (hb hby at_108) k) ?_
    show Goes p.tables e below (T9.setTop (mkF m 109 #[.val (.int pn), .val (.int pb0), .val (.int pb1), .val (.int pb2), .val (.int pb3), .val (.int (1 : Int32)), .val (.ref b8), .val (.long x10), .second, .val (.long x11), .second, .val (.long x12), .second, .val (.long x13), .second, .unset, .unset, .unset] [(.int (1 : Int32)), (.int (1 : Int32))])) _
    refine Goes.by (fun _ k => XS.icmpNo X9.here hx rfl (hb hby at_109) rfl (teq (by decide : (1 : Int32) = (1 : Int32))).2 k) ?_
    show Goes p.tables e below (T9.setTop (mkF m 112 #[.val (.int pn), .val (.int pb0), .val (.int pb1), .val (.int pb2), .val (.int pb3), .val (.int (1 : Int32)), .val (.ref b8), .val (.long x10), .second, .val (.long x11), .second, .val (.long x12), .second, .val (.long x13), .second, .unset, .unset, .unset] [])) _
    refine Goes.by (fun _ k => XS.lload X9.here hx rfl (hb hby at_112) rfl k) ?_
    show Goes p.tables e below (T9.setTop (mkF m 114 #[.val (.int pn), .val (.int pb0), .val (.int pb1), .val (.int pb2), .val (.int pb3), .val (.int (1 : Int32)), .val (.ref b8), .val (.long x10), .second, .val (.long x11), .second, .val (.long x12), .second, .val (.long x13), .second, .unset, .unset, .unset] [(.long x10)])) _
    refine Goes.by (fun _ k => XS.lstore X9.here hx rfl (hb hby at_114) rfl (l' := #[.val (.int pn), .val (.int pb0), .val (.int pb1), .val (.int pb2), .val (.int pb3), .val (.int (1 : Int32)), .val (.ref b8), .val (.long x10), .second, .val (.long x11), .second, .val (.long x12), .second, .val (.long x13), .second, .val (.long x10), .second, .unset]) rfl k) ?_
    show Goes p.tables e below (T9.setTop (mkF m 116 #[.val (.int pn), .val (.int pb0), .val (.int pb1), .val (.int pb2), .val (.int pb3), .val (.int (1 : Int32)), .val (.ref b8), .val (.long x10), .second, .val (.long x11), .second, .val (.long x12), .second, .val (.long x13), .second, .val (.long x10), .second, .unset] [])) _
    refine Goes.by (fun _ k => XS.goto X9.here hx rfl (pc0 := 116) (pc' := 191) rfl (hb hby at_116) (by decide) (by decide) k) ?_
    show Goes p.tables e below (T9.setTop (mkF m 191 #[.val (.int pn), .val (.int pb0), .val (.int pb1), .val (.int pb2), .val (.int pb3), .val (.int (1 : Int32)), .val (.ref b8), .val (.long x10), .second, .val (.long x11), .second, .val (.long x12), .second, .val (.long x13), .second, .val (.long x10), .second, .unset] [])) _
    refine Goes.by (fun _ k => XS.aload X9.here hx rfl (hb hby at_191) rfl rfl k) ?_
    show Goes p.tables e below (T9.setTop (mkF m 193 #[.val (.int pn), .val (.int pb0), .val (.int pb1), .val (.int pb2), .val (.int pb3), .val (.int (1 : Int32)), .val (.ref b8), .val (.long x10), .second, .val (.long x11), .second, .val (.long x12), .second, .val (.long x13), .second, .val (.long x10), .second, .unset] [(.ref b8)])) _
    obtain ⟨_, _, ⟨T14, L14, k14, n14⟩, -, X14, ⟨Lc14, hQ14, l14, y14, z14⟩, st14⟩ := Jvm.LawKit.callS X9 hx (y := (⟨"castkey/card/ModeObjects", "number", "([B)I"⟩ : MethodName)) hown (mvT hZ (hw _ (List.mem_of_getElem? (i := 2) rfl))) (mvT hZ (hw _ (List.mem_of_getElem? (i := 3) rfl))) (mvT hZ (hw _ (List.mem_of_getElem? (i := 4) rfl))) (mvT hZ (hw _ (List.mem_of_getElem? (i := 5) rfl))) (by decide) (backOf (W := 0) (rm1n1 l Z a0 hw [] b8 (up (fun _ => (0 : Int32)) 0 ((pb0.toInt8.toInt32).toInt8.toInt32)) h9 n0 Zs9 A_b8) hZ (hw _ (List.mem_of_getElem? (i := 5) rfl)) (hw _ (List.mem_of_getElem? (i := 4) rfl)) (by decide) (by decide)) (g := (mkF m 193 #[.val (.int pn), .val (.int pb0), .val (.int pb1), .val (.int pb2), .val (.int pb3), .val (.int (1 : Int32)), .val (.ref b8), .val (.long x10), .second, .val (.long x11), .second, .val (.long x12), .second, .val (.long x13), .second, .val (.long x10), .second, .unset] [(.ref b8)])) rfl (by rw [hml]; rfl) (argsL := [(.ref b8)]) (rest := []) (lenOf pd_0 rfl) rfl (by show 2 * 0 + _ ≤ _; exact Nat.le_of_eq rfl) (hb hby at_193) (fun _ _ => ⟨rfl, e9, (by decide : 1 + 0 ≤ _), (by decide : 1 + 0 ≤ _)⟩)
    dsimp only [Pt.U, Pt.locs, Pt.cells, Pt.slots] at X14 l14 y14 z14 st14 hQ14
    subst l14 y14 z14
    obtain ⟨rfl, N14q, e14⟩ := hQ14
    have N14 := Fr.app N9 N14q
    refine Goes.by st14 ?_
    show Goes p.tables e below (T14.setTop (mkF m 196 #[.val (.int pn), .val (.int pb0), .val (.int pb1), .val (.int pb2), .val (.int pb3), .val (.int (1 : Int32)), .val (.ref b8), .val (.long x10), .second, .val (.long x11), .second, .val (.long x12), .second, .val (.long x13), .second, .val (.long x10), .second, .unset] [(.int (((0 : Int32) <<< ((8 : Int32) &&& 31)) ||| (((pb0.toInt8.toInt32).toInt8.toInt32) &&& (255 : Int32))))])) _
    obtain ⟨x15, hx15⟩ : ∃ z : Int32, z = (((0 : Int32) <<< ((8 : Int32) &&& 31)) ||| (((pb0.toInt8.toInt32).toInt8.toInt32) &&& (255 : Int32))) := ⟨_, rfl⟩
    refine Goes.by (fun _ k => XS.istore X14.here hx rfl (hb hby at_196) rfl (l' := #[.val (.int pn), .val (.int pb0), .val (.int pb1), .val (.int pb2), .val (.int pb3), .val (.int (1 : Int32)), .val (.ref b8), .val (.long x10), .second, .val (.long x11), .second, .val (.long x12), .second, .val (.long x13), .second, .val (.long x10), .second, .val (.int x15)]) (by rw [hx15]; rfl) k) ?_
    show Goes p.tables e below (T14.setTop (mkF m 198 #[.val (.int pn), .val (.int pb0), .val (.int pb1), .val (.int pb2), .val (.int pb3), .val (.int (1 : Int32)), .val (.ref b8), .val (.long x10), .second, .val (.long x11), .second, .val (.long x12), .second, .val (.long x13), .second, .val (.long x10), .second, .val (.int x15)] [])) _
    refine Goes.by (fun _ k => XS.iload X14.here hx rfl (hb hby at_198) rfl k) ?_
    show Goes p.tables e below (T14.setTop (mkF m 200 #[.val (.int pn), .val (.int pb0), .val (.int pb1), .val (.int pb2), .val (.int pb3), .val (.int (1 : Int32)), .val (.ref b8), .val (.long x10), .second, .val (.long x11), .second, .val (.long x12), .second, .val (.long x13), .second, .val (.long x10), .second, .val (.int x15)] [(.int x15)])) _
    refine Goes.by (fun _ k => XS.lload X14.here hx rfl (hb hby at_200) rfl k) ?_
    show Goes p.tables e below (T14.setTop (mkF m 202 #[.val (.int pn), .val (.int pb0), .val (.int pb1), .val (.int pb2), .val (.int pb3), .val (.int (1 : Int32)), .val (.ref b8), .val (.long x10), .second, .val (.long x11), .second, .val (.long x12), .second, .val (.long x13), .second, .val (.long x10), .second, .val (.int x15)] [(.long x10), (.int x15)])) _
    refine Goes.by (fun _ k => XS.l2i X14.here hx rfl (hb hby at_202) rfl k) ?_
    show Goes p.tables e below (T14.setTop (mkF m 203 #[.val (.int pn), .val (.int pb0), .val (.int pb1), .val (.int pb2), .val (.int pb3), .val (.int (1 : Int32)), .val (.ref b8), .val (.long x10), .second, .val (.long x11), .second, .val (.long x12), .second, .val (.long x13), .second, .val (.long x10), .second, .val (.int x15)] [(.int (x10.toInt32)), (.int x15)])) _
    refine Goes.by (fun _ k => XS.icmpNo X14.here hx rfl (hb hby at_203) rfl (teq (by rw [hx15, hx10]; exact own_c1 pb0 pb1 pb2 pb3 : x15 = (x10.toInt32))).2 k) ?_
    show Goes p.tables e below (T14.setTop (mkF m 206 #[.val (.int pn), .val (.int pb0), .val (.int pb1), .val (.int pb2), .val (.int pb3), .val (.int (1 : Int32)), .val (.ref b8), .val (.long x10), .second, .val (.long x11), .second, .val (.long x12), .second, .val (.long x13), .second, .val (.long x10), .second, .val (.int x15)] [])) _
    refine Goes.by (fun _ k => XS.iconst X14.here hx rfl (hb hby at_206) k) ?_
    show Goes p.tables e below (T14.setTop (mkF m 207 #[.val (.int pn), .val (.int pb0), .val (.int pb1), .val (.int pb2), .val (.int pb3), .val (.int (1 : Int32)), .val (.ref b8), .val (.long x10), .second, .val (.long x11), .second, .val (.long x12), .second, .val (.long x13), .second, .val (.long x10), .second, .val (.int x15)] [(.int (1 : Int32))])) _
    refine Goes.by (fun _ k => XS.goto X14.here hx rfl (pc0 := 207) (pc' := 211) rfl (hb hby at_207) (by decide) (by decide) k) ?_
    show Goes p.tables e below (T14.setTop (mkF m 211 #[.val (.int pn), .val (.int pb0), .val (.int pb1), .val (.int pb2), .val (.int pb3), .val (.int (1 : Int32)), .val (.ref b8), .val (.long x10), .second, .val (.long x11), .second, .val (.long x12), .second, .val (.long x13), .second, .val (.long x10), .second, .val (.int x15)] [(.int (1 : Int32))])) _
    obtain ⟨fs, hr, hrun, hended, hW, hsame⟩ := X14.leave (v := some (.int (1 : Int32))) (fun h => by rw [Bd.returns] at h; cases h)
    refine ⟨_, _, retN X14 hx (t := .boolean) Bd.returns (by simp) (hb hby at_211) hr, hrun, hended, _, _, rfl, ?_, ⟨_, rfl⟩, hW, hsame.mono (by decide) (by decide)⟩
    show Q0 Z pn pb0 pb1 pb2 pb3 h0 n0 _ T14.heap _
    rw [e14]
    exact ⟨rfl, N14⟩
  · subst qc
    show Goes p.tables e below (s₁.setTop (mkF m 8 #[.val (.int pn), .val (.int pb0), .val (.int pb1), .val (.int pb2), .val (.int pb3), .val (.int (2 : Int32)), .unset, .unset, .unset, .unset, .unset, .unset, .unset, .unset, .unset, .unset, .unset, .unset] [])) _
    refine Goes.by (fun _ k => XS.iload X0.here hx rfl (hb hby at_8) rfl k) ?_
    show Goes p.tables e below (s₁.setTop (mkF m 10 #[.val (.int pn), .val (.int pb0), .val (.int pb1), .val (.int pb2), .val (.int pb3), .val (.int (2 : Int32)), .unset, .unset, .unset, .unset, .unset, .unset, .unset, .unset, .unset, .unset, .unset, .unset] [(.int (2 : Int32))])) _
    obtain ⟨T16, h16, X16, e16, E16, A16, st16⟩ := nwA (n := 2) (cap := 2) (fr := (mkF m 10 #[.val (.int pn), .val (.int pb0), .val (.int pb1), .val (.int pb2), .val (.int pb3), .val (.int (2 : Int32)), .unset, .unset, .unset, .unset, .unset, .unset, .unset, .unset, .unset, .unset, .unset, .unset] [(.int (2 : Int32))])) X0 hx hZ (hw _ (List.mem_of_getElem? (i := 1) rfl)) e0 (by decide) (by decide) (by decide) (by decide) (by decide) rfl rfl (hb hby at_10)
    obtain ⟨b16, g16⟩ : ∃ z, z = h0.size := ⟨_, rfl⟩
    rw [← g16] at A16 st16
    have g_b16 : n0 ≤ b16 := Nat.le_trans Z0 (Nat.le_of_eq g16.symm)
    have sz_b16 : h0.size ≤ b16 := Nat.le_trans (Keep.refl h0 []).1 (Nat.le_of_eq g16.symm)
    have Zs16 : n0 ≤ h16.size := Nat.le_trans Z0 E16.1
    have K16 : Keep h0 h16 [] := (Keep.refl h0 []).ext E16
    refine Goes.by st16 ?_
    have A_b16 : AI Z h16 b16 .byte 2 (fun _ => (0 : Int32)) := A16
    show Goes p.tables e below (T16.setTop (mkF m 12 #[.val (.int pn), .val (.int pb0), .val (.int pb1), .val (.int pb2), .val (.int pb3), .val (.int (2 : Int32)), .unset, .unset, .unset, .unset, .unset, .unset, .unset, .unset, .unset, .unset, .unset, .unset] [(.ref b16)])) _
    refine Goes.by (fun _ k => XS.astore X16.here hx rfl (hb hby at_12) rfl rfl (l' := #[.val (.int pn), .val (.int pb0), .val (.int pb1), .val (.int pb2), .val (.int pb3), .val (.int (2 : Int32)), .val (.ref b16), .unset, .unset, .unset, .unset, .unset, .unset, .unset, .unset, .unset, .unset, .unset]) rfl k) ?_
    show Goes p.tables e below (T16.setTop (mkF m 14 #[.val (.int pn), .val (.int pb0), .val (.int pb1), .val (.int pb2), .val (.int pb3), .val (.int (2 : Int32)), .val (.ref b16), .unset, .unset, .unset, .unset, .unset, .unset, .unset, .unset, .unset, .unset, .unset] [])) _
    refine Goes.by (fun _ k => XS.iload X16.here hx rfl (hb hby at_14) rfl k) ?_
    show Goes p.tables e below (T16.setTop (mkF m 16 #[.val (.int pn), .val (.int pb0), .val (.int pb1), .val (.int pb2), .val (.int pb3), .val (.int (2 : Int32)), .val (.ref b16), .unset, .unset, .unset, .unset, .unset, .unset, .unset, .unset, .unset, .unset, .unset] [(.int (2 : Int32))])) _
    refine Goes.by (fun _ k => XS.ifNo X16.here hx rfl (hb hby at_16) rfl ((if0 _ _).trans (tlt (by decide : (0 : Int32) < (2 : Int32))).2.2.2) k) ?_
    show Goes p.tables e below (T16.setTop (mkF m 19 #[.val (.int pn), .val (.int pb0), .val (.int pb1), .val (.int pb2), .val (.int pb3), .val (.int (2 : Int32)), .val (.ref b16), .unset, .unset, .unset, .unset, .unset, .unset, .unset, .unset, .unset, .unset, .unset] [])) _
    refine Goes.by (fun _ k => XS.aload X16.here hx rfl (hb hby at_19) rfl rfl k) ?_
    show Goes p.tables e below (T16.setTop (mkF m 21 #[.val (.int pn), .val (.int pb0), .val (.int pb1), .val (.int pb2), .val (.int pb3), .val (.int (2 : Int32)), .val (.ref b16), .unset, .unset, .unset, .unset, .unset, .unset, .unset, .unset, .unset, .unset, .unset] [(.ref b16)])) _
    refine Goes.by (fun _ k => XS.iconst X16.here hx rfl (hb hby at_21) k) ?_
    show Goes p.tables e below (T16.setTop (mkF m 22 #[.val (.int pn), .val (.int pb0), .val (.int pb1), .val (.int pb2), .val (.int pb3), .val (.int (2 : Int32)), .val (.ref b16), .unset, .unset, .unset, .unset, .unset, .unset, .unset, .unset, .unset, .unset, .unset] [(.int (0 : Int32)), (.ref b16)])) _
    refine Goes.by (fun _ k => XS.iloadN X16.here hx rfl (hb hby at_22) rfl k) ?_
    show Goes p.tables e below (T16.setTop (mkF m 23 #[.val (.int pn), .val (.int pb0), .val (.int pb1), .val (.int pb2), .val (.int pb3), .val (.int (2 : Int32)), .val (.ref b16), .unset, .unset, .unset, .unset, .unset, .unset, .unset, .unset, .unset, .unset, .unset] [(.int pb0), (.int (0 : Int32)), (.ref b16)])) _
    refine Goes.by (fun _ k => XS.i2b X16.here hx rfl (hb hby at_23) rfl k) ?_
    show Goes p.tables e below (T16.setTop (mkF m 24 #[.val (.int pn), .val (.int pb0), .val (.int pb1), .val (.int pb2), .val (.int pb3), .val (.int (2 : Int32)), .val (.ref b16), .unset, .unset, .unset, .unset, .unset, .unset, .unset, .unset, .unset, .unset, .unset] [(.int (pb0.toInt8.toInt32)), (.int (0 : Int32)), (.ref b16)])) _
    obtain ⟨T17, h17, X17, e17, W17, A17, st17⟩ := stAB (fr := (mkF m 24 #[.val (.int pn), .val (.int pb0), .val (.int pb1), .val (.int pb2), .val (.int pb3), .val (.int (2 : Int32)), .val (.ref b16), .unset, .unset, .unset, .unset, .unset, .unset, .unset, .unset, .unset, .unset, .unset] [(.int (pb0.toInt8.toInt32)), (.int (0 : Int32)), (.ref b16)])) X16 hx hZ e16 A_b16 (i := 0) (by decide) (by decide) rfl rfl (hb hby at_24)
    refine Goes.by st17 ?_
    have A_b16 : AI Z h17 b16 .byte 2 (up (fun _ => (0 : Int32)) 0 ((pb0.toInt8.toInt32).toInt8.toInt32)) := A17
    have N17 := Fr.snoc X17 N0 g_b16
    have Zs17 : n0 ≤ h17.size := Nat.le_trans Zs16 (Keep.of_wr W17).1
    have K17 : Keep h0 h17 [] := K16.wr W17 (Or.inr sz_b16)
    show Goes p.tables e below (T17.setTop (mkF m 25 #[.val (.int pn), .val (.int pb0), .val (.int pb1), .val (.int pb2), .val (.int pb3), .val (.int (2 : Int32)), .val (.ref b16), .unset, .unset, .unset, .unset, .unset, .unset, .unset, .unset, .unset, .unset, .unset] [])) _
    refine Goes.by (fun _ k => XS.iload X17.here hx rfl (hb hby at_25) rfl k) ?_
    show Goes p.tables e below (T17.setTop (mkF m 27 #[.val (.int pn), .val (.int pb0), .val (.int pb1), .val (.int pb2), .val (.int pb3), .val (.int (2 : Int32)), .val (.ref b16), .unset, .unset, .unset, .unset, .unset, .unset, .unset, .unset, .unset, .unset, .unset] [(.int (2 : Int32))])) _
    refine Goes.by (fun _ k => XS.iconst X17.here hx rfl (hb hby at_27) k) ?_
    show Goes p.tables e below (T17.setTop (mkF m 28 #[.val (.int pn), .val (.int pb0), .val (.int pb1), .val (.int pb2), .val (.int pb3), .val (.int (2 : Int32)), .val (.ref b16), .unset, .unset, .unset, .unset, .unset, .unset, .unset, .unset, .unset, .unset, .unset] [(.int (1 : Int32)), (.int (2 : Int32))])) _
    refine Goes.by (fun _ k => XS.icmpNo X17.here hx rfl (hb hby at_28) rfl (tlt (by decide : (1 : Int32) < (2 : Int32))).2.2.2 k) ?_
    show Goes p.tables e below (T17.setTop (mkF m 31 #[.val (.int pn), .val (.int pb0), .val (.int pb1), .val (.int pb2), .val (.int pb3), .val (.int (2 : Int32)), .val (.ref b16), .unset, .unset, .unset, .unset, .unset, .unset, .unset, .unset, .unset, .unset, .unset] [])) _
    refine Goes.by (fun _ k => XS.aload X17.here hx rfl (hb hby at_31) rfl rfl k) ?_
    show Goes p.tables e below (T17.setTop (mkF m 33 #[.val (.int pn), .val (.int pb0), .val (.int pb1), .val (.int pb2), .val (.int pb3), .val (.int (2 : Int32)), .val (.ref b16), .unset, .unset, .unset, .unset, .unset, .unset, .unset, .unset, .unset, .unset, .unset] [(.ref b16)])) _
    refine Goes.by (fun _ k => XS.iconst X17.here hx rfl (hb hby at_33) k) ?_
    show Goes p.tables e below (T17.setTop (mkF m 34 #[.val (.int pn), .val (.int pb0), .val (.int pb1), .val (.int pb2), .val (.int pb3), .val (.int (2 : Int32)), .val (.ref b16), .unset, .unset, .unset, .unset, .unset, .unset, .unset, .unset, .unset, .unset, .unset] [(.int (1 : Int32)), (.ref b16)])) _
    refine Goes.by (fun _ k => XS.iloadN X17.here hx rfl (hb hby at_34) rfl k) ?_
    show Goes p.tables e below (T17.setTop (mkF m 35 #[.val (.int pn), .val (.int pb0), .val (.int pb1), .val (.int pb2), .val (.int pb3), .val (.int (2 : Int32)), .val (.ref b16), .unset, .unset, .unset, .unset, .unset, .unset, .unset, .unset, .unset, .unset, .unset] [(.int pb1), (.int (1 : Int32)), (.ref b16)])) _
    refine Goes.by (fun _ k => XS.i2b X17.here hx rfl (hb hby at_35) rfl k) ?_
    show Goes p.tables e below (T17.setTop (mkF m 36 #[.val (.int pn), .val (.int pb0), .val (.int pb1), .val (.int pb2), .val (.int pb3), .val (.int (2 : Int32)), .val (.ref b16), .unset, .unset, .unset, .unset, .unset, .unset, .unset, .unset, .unset, .unset, .unset] [(.int (pb1.toInt8.toInt32)), (.int (1 : Int32)), (.ref b16)])) _
    obtain ⟨T18, h18, X18, e18, W18, A18, st18⟩ := stAB (fr := (mkF m 36 #[.val (.int pn), .val (.int pb0), .val (.int pb1), .val (.int pb2), .val (.int pb3), .val (.int (2 : Int32)), .val (.ref b16), .unset, .unset, .unset, .unset, .unset, .unset, .unset, .unset, .unset, .unset, .unset] [(.int (pb1.toInt8.toInt32)), (.int (1 : Int32)), (.ref b16)])) X17 hx hZ e17 A_b16 (i := 1) (by decide) (by decide) rfl rfl (hb hby at_36)
    refine Goes.by st18 ?_
    have A_b16 : AI Z h18 b16 .byte 2 (up (up (fun _ => (0 : Int32)) 0 ((pb0.toInt8.toInt32).toInt8.toInt32)) 1 ((pb1.toInt8.toInt32).toInt8.toInt32)) := A18
    have N18 := Fr.snoc X18 N17 g_b16
    have Zs18 : n0 ≤ h18.size := Nat.le_trans Zs17 (Keep.of_wr W18).1
    have K18 : Keep h0 h18 [] := K17.wr W18 (Or.inr sz_b16)
    show Goes p.tables e below (T18.setTop (mkF m 37 #[.val (.int pn), .val (.int pb0), .val (.int pb1), .val (.int pb2), .val (.int pb3), .val (.int (2 : Int32)), .val (.ref b16), .unset, .unset, .unset, .unset, .unset, .unset, .unset, .unset, .unset, .unset, .unset] [])) _
    refine Goes.by (fun _ k => XS.iload X18.here hx rfl (hb hby at_37) rfl k) ?_
    show Goes p.tables e below (T18.setTop (mkF m 39 #[.val (.int pn), .val (.int pb0), .val (.int pb1), .val (.int pb2), .val (.int pb3), .val (.int (2 : Int32)), .val (.ref b16), .unset, .unset, .unset, .unset, .unset, .unset, .unset, .unset, .unset, .unset, .unset] [(.int (2 : Int32))])) _
    refine Goes.by (fun _ k => XS.iconst X18.here hx rfl (hb hby at_39) k) ?_
    show Goes p.tables e below (T18.setTop (mkF m 40 #[.val (.int pn), .val (.int pb0), .val (.int pb1), .val (.int pb2), .val (.int pb3), .val (.int (2 : Int32)), .val (.ref b16), .unset, .unset, .unset, .unset, .unset, .unset, .unset, .unset, .unset, .unset, .unset] [(.int (2 : Int32)), (.int (2 : Int32))])) _
    refine Goes.by (fun _ k => XS.icmpYes X18.here hx rfl (pc0 := 40) (pc' := 49) rfl (hb hby at_40) rfl (flt (by decide : ¬ ((2 : Int32) < (2 : Int32)))).2.2.2 (by decide) (by decide) k) ?_
    show Goes p.tables e below (T18.setTop (mkF m 49 #[.val (.int pn), .val (.int pb0), .val (.int pb1), .val (.int pb2), .val (.int pb3), .val (.int (2 : Int32)), .val (.ref b16), .unset, .unset, .unset, .unset, .unset, .unset, .unset, .unset, .unset, .unset, .unset] [])) _
    refine Goes.by (fun _ k => XS.iload X18.here hx rfl (hb hby at_49) rfl k) ?_
    show Goes p.tables e below (T18.setTop (mkF m 51 #[.val (.int pn), .val (.int pb0), .val (.int pb1), .val (.int pb2), .val (.int pb3), .val (.int (2 : Int32)), .val (.ref b16), .unset, .unset, .unset, .unset, .unset, .unset, .unset, .unset, .unset, .unset, .unset] [(.int (2 : Int32))])) _
    refine Goes.by (fun _ k => XS.iconst X18.here hx rfl (hb hby at_51) k) ?_
    show Goes p.tables e below (T18.setTop (mkF m 52 #[.val (.int pn), .val (.int pb0), .val (.int pb1), .val (.int pb2), .val (.int pb3), .val (.int (2 : Int32)), .val (.ref b16), .unset, .unset, .unset, .unset, .unset, .unset, .unset, .unset, .unset, .unset, .unset] [(.int (3 : Int32)), (.int (2 : Int32))])) _
    refine Goes.by (fun _ k => XS.icmpYes X18.here hx rfl (pc0 := 52) (pc' := 62) rfl (hb hby at_52) rfl (flt (by decide : ¬ ((3 : Int32) < (2 : Int32)))).2.2.2 (by decide) (by decide) k) ?_
    show Goes p.tables e below (T18.setTop (mkF m 62 #[.val (.int pn), .val (.int pb0), .val (.int pb1), .val (.int pb2), .val (.int pb3), .val (.int (2 : Int32)), .val (.ref b16), .unset, .unset, .unset, .unset, .unset, .unset, .unset, .unset, .unset, .unset, .unset] [])) _
    refine Goes.by (fun _ k => XS.iloadN X18.here hx rfl (hb hby at_62) rfl k) ?_
    show Goes p.tables e below (T18.setTop (mkF m 63 #[.val (.int pn), .val (.int pb0), .val (.int pb1), .val (.int pb2), .val (.int pb3), .val (.int (2 : Int32)), .val (.ref b16), .unset, .unset, .unset, .unset, .unset, .unset, .unset, .unset, .unset, .unset, .unset] [(.int pb0)])) _
    refine Goes.by (fun _ k => XS.sipush X18.here hx rfl (hb hby at_63) k) ?_
    show Goes p.tables e below (T18.setTop (mkF m 66 #[.val (.int pn), .val (.int pb0), .val (.int pb1), .val (.int pb2), .val (.int pb3), .val (.int (2 : Int32)), .val (.ref b16), .unset, .unset, .unset, .unset, .unset, .unset, .unset, .unset, .unset, .unset, .unset] [(.int (255 : Int32)), (.int pb0)])) _
    refine Goes.by (fun _ k => XS.iand X18.here hx rfl (hb hby at_66) rfl k) ?_
    show Goes p.tables e below (T18.setTop (mkF m 67 #[.val (.int pn), .val (.int pb0), .val (.int pb1), .val (.int pb2), .val (.int pb3), .val (.int (2 : Int32)), .val (.ref b16), .unset, .unset, .unset, .unset, .unset, .unset, .unset, .unset, .unset, .unset, .unset] [(.int (pb0 &&& (255 : Int32)))])) _
    refine Goes.by (fun _ k => XS.i2l X18.here hx rfl (hb hby at_67) rfl k) ?_
    show Goes p.tables e below (T18.setTop (mkF m 68 #[.val (.int pn), .val (.int pb0), .val (.int pb1), .val (.int pb2), .val (.int pb3), .val (.int (2 : Int32)), .val (.ref b16), .unset, .unset, .unset, .unset, .unset, .unset, .unset, .unset, .unset, .unset, .unset] [(.long ((pb0 &&& (255 : Int32)).toInt64))])) _
    obtain ⟨x19, hx19⟩ : ∃ z : Int64, z = ((pb0 &&& (255 : Int32)).toInt64) := ⟨_, rfl⟩
    refine Goes.by (fun _ k => XS.lstore X18.here hx rfl (hb hby at_68) rfl (l' := #[.val (.int pn), .val (.int pb0), .val (.int pb1), .val (.int pb2), .val (.int pb3), .val (.int (2 : Int32)), .val (.ref b16), .val (.long x19), .second, .unset, .unset, .unset, .unset, .unset, .unset, .unset, .unset, .unset]) (by rw [hx19]; rfl) k) ?_
    show Goes p.tables e below (T18.setTop (mkF m 70 #[.val (.int pn), .val (.int pb0), .val (.int pb1), .val (.int pb2), .val (.int pb3), .val (.int (2 : Int32)), .val (.ref b16), .val (.long x19), .second, .unset, .unset, .unset, .unset, .unset, .unset, .unset, .unset, .unset] [])) _
    refine Goes.by (fun _ k => XS.iloadN X18.here hx rfl (hb hby at_70) rfl k) ?_
    show Goes p.tables e below (T18.setTop (mkF m 71 #[.val (.int pn), .val (.int pb0), .val (.int pb1), .val (.int pb2), .val (.int pb3), .val (.int (2 : Int32)), .val (.ref b16), .val (.long x19), .second, .unset, .unset, .unset, .unset, .unset, .unset, .unset, .unset, .unset] [(.int pb1)])) _
    refine Goes.by (fun _ k => XS.sipush X18.here hx rfl (hb hby at_71) k) ?_
    show Goes p.tables e below (T18.setTop (mkF m 74 #[.val (.int pn), .val (.int pb0), .val (.int pb1), .val (.int pb2), .val (.int pb3), .val (.int (2 : Int32)), .val (.ref b16), .val (.long x19), .second, .unset, .unset, .unset, .unset, .unset, .unset, .unset, .unset, .unset] [(.int (255 : Int32)), (.int pb1)])) _
    refine Goes.by (fun _ k => XS.iand X18.here hx rfl (hb hby at_74) rfl k) ?_
    show Goes p.tables e below (T18.setTop (mkF m 75 #[.val (.int pn), .val (.int pb0), .val (.int pb1), .val (.int pb2), .val (.int pb3), .val (.int (2 : Int32)), .val (.ref b16), .val (.long x19), .second, .unset, .unset, .unset, .unset, .unset, .unset, .unset, .unset, .unset] [(.int (pb1 &&& (255 : Int32)))])) _
    refine Goes.by (fun _ k => XS.i2l X18.here hx rfl (hb hby at_75) rfl k) ?_
    show Goes p.tables e below (T18.setTop (mkF m 76 #[.val (.int pn), .val (.int pb0), .val (.int pb1), .val (.int pb2), .val (.int pb3), .val (.int (2 : Int32)), .val (.ref b16), .val (.long x19), .second, .unset, .unset, .unset, .unset, .unset, .unset, .unset, .unset, .unset] [(.long ((pb1 &&& (255 : Int32)).toInt64))])) _
    obtain ⟨x20, hx20⟩ : ∃ z : Int64, z = ((pb1 &&& (255 : Int32)).toInt64) := ⟨_, rfl⟩
    refine Goes.by (fun _ k => XS.lstore X18.here hx rfl (hb hby at_76) rfl (l' := #[.val (.int pn), .val (.int pb0), .val (.int pb1), .val (.int pb2), .val (.int pb3), .val (.int (2 : Int32)), .val (.ref b16), .val (.long x19), .second, .val (.long x20), .second, .unset, .unset, .unset, .unset, .unset, .unset, .unset]) (by rw [hx20]; rfl) k) ?_
    show Goes p.tables e below (T18.setTop (mkF m 78 #[.val (.int pn), .val (.int pb0), .val (.int pb1), .val (.int pb2), .val (.int pb3), .val (.int (2 : Int32)), .val (.ref b16), .val (.long x19), .second, .val (.long x20), .second, .unset, .unset, .unset, .unset, .unset, .unset, .unset] [])) _
    refine Goes.by (fun _ k => XS.iloadN X18.here hx rfl (hb hby at_78) rfl k) ?_
    show Goes p.tables e below (T18.setTop (mkF m 79 #[.val (.int pn), .val (.int pb0), .val (.int pb1), .val (.int pb2), .val (.int pb3), .val (.int (2 : Int32)), .val (.ref b16), .val (.long x19), .second, .val (.long x20), .second, .unset, .unset, .unset, .unset, .unset, .unset, .unset] [(.int pb2)])) _
    refine Goes.by (fun _ k => XS.sipush X18.here hx rfl (hb hby at_79) k) ?_
    show Goes p.tables e below (T18.setTop (mkF m 82 #[.val (.int pn), .val (.int pb0), .val (.int pb1), .val (.int pb2), .val (.int pb3), .val (.int (2 : Int32)), .val (.ref b16), .val (.long x19), .second, .val (.long x20), .second, .unset, .unset, .unset, .unset, .unset, .unset, .unset] [(.int (255 : Int32)), (.int pb2)])) _
    refine Goes.by (fun _ k => XS.iand X18.here hx rfl (hb hby at_82) rfl k) ?_
    show Goes p.tables e below (T18.setTop (mkF m 83 #[.val (.int pn), .val (.int pb0), .val (.int pb1), .val (.int pb2), .val (.int pb3), .val (.int (2 : Int32)), .val (.ref b16), .val (.long x19), .second, .val (.long x20), .second, .unset, .unset, .unset, .unset, .unset, .unset, .unset] [(.int (pb2 &&& (255 : Int32)))])) _
    refine Goes.by (fun _ k => XS.i2l X18.here hx rfl (hb hby at_83) rfl k) ?_
    show Goes p.tables e below (T18.setTop (mkF m 84 #[.val (.int pn), .val (.int pb0), .val (.int pb1), .val (.int pb2), .val (.int pb3), .val (.int (2 : Int32)), .val (.ref b16), .val (.long x19), .second, .val (.long x20), .second, .unset, .unset, .unset, .unset, .unset, .unset, .unset] [(.long ((pb2 &&& (255 : Int32)).toInt64))])) _
    obtain ⟨x21, hx21⟩ : ∃ z : Int64, z = ((pb2 &&& (255 : Int32)).toInt64) := ⟨_, rfl⟩
    refine Goes.by (fun _ k => XS.lstore X18.here hx rfl (hb hby at_84) rfl (l' := #[.val (.int pn), .val (.int pb0), .val (.int pb1), .val (.int pb2), .val (.int pb3), .val (.int (2 : Int32)), .val (.ref b16), .val (.long x19), .second, .val (.long x20), .second, .val (.long x21), .second, .unset, .unset, .unset, .unset, .unset]) (by rw [hx21]; rfl) k) ?_
    show Goes p.tables e below (T18.setTop (mkF m 86 #[.val (.int pn), .val (.int pb0), .val (.int pb1), .val (.int pb2), .val (.int pb3), .val (.int (2 : Int32)), .val (.ref b16), .val (.long x19), .second, .val (.long x20), .second, .val (.long x21), .second, .unset, .unset, .unset, .unset, .unset] [])) _
    refine Goes.by (fun _ k => XS.iload X18.here hx rfl (hb hby at_86) rfl k) ?_
    show Goes p.tables e below (T18.setTop (mkF m 88 #[.val (.int pn), .val (.int pb0), .val (.int pb1), .val (.int pb2), .val (.int pb3), .val (.int (2 : Int32)), .val (.ref b16), .val (.long x19), .second, .val (.long x20), .second, .val (.long x21), .second, .unset, .unset, .unset, .unset, .unset] [(.int pb3)])) _
    refine Goes.by (fun _ k => XS.sipush X18.here hx rfl (hb hby at_88) k) ?_
    show Goes p.tables e below (T18.setTop (mkF m 91 #[.val (.int pn), .val (.int pb0), .val (.int pb1), .val (.int pb2), .val (.int pb3), .val (.int (2 : Int32)), .val (.ref b16), .val (.long x19), .second, .val (.long x20), .second, .val (.long x21), .second, .unset, .unset, .unset, .unset, .unset] [(.int (255 : Int32)), (.int pb3)])) _
    refine Goes.by (fun _ k => XS.iand X18.here hx rfl (hb hby at_91) rfl k) ?_
    show Goes p.tables e below (T18.setTop (mkF m 92 #[.val (.int pn), .val (.int pb0), .val (.int pb1), .val (.int pb2), .val (.int pb3), .val (.int (2 : Int32)), .val (.ref b16), .val (.long x19), .second, .val (.long x20), .second, .val (.long x21), .second, .unset, .unset, .unset, .unset, .unset] [(.int (pb3 &&& (255 : Int32)))])) _
    refine Goes.by (fun _ k => XS.i2l X18.here hx rfl (hb hby at_92) rfl k) ?_
    show Goes p.tables e below (T18.setTop (mkF m 93 #[.val (.int pn), .val (.int pb0), .val (.int pb1), .val (.int pb2), .val (.int pb3), .val (.int (2 : Int32)), .val (.ref b16), .val (.long x19), .second, .val (.long x20), .second, .val (.long x21), .second, .unset, .unset, .unset, .unset, .unset] [(.long ((pb3 &&& (255 : Int32)).toInt64))])) _
    obtain ⟨x22, hx22⟩ : ∃ z : Int64, z = ((pb3 &&& (255 : Int32)).toInt64) := ⟨_, rfl⟩
    refine Goes.by (fun _ k => XS.lstore X18.here hx rfl (hb hby at_93) rfl (l' := #[.val (.int pn), .val (.int pb0), .val (.int pb1), .val (.int pb2), .val (.int pb3), .val (.int (2 : Int32)), .val (.ref b16), .val (.long x19), .second, .val (.long x20), .second, .val (.long x21), .second, .val (.long x22), .second, .unset, .unset, .unset]) (by rw [hx22]; rfl) k) ?_
    show Goes p.tables e below (T18.setTop (mkF m 95 #[.val (.int pn), .val (.int pb0), .val (.int pb1), .val (.int pb2), .val (.int pb3), .val (.int (2 : Int32)), .val (.ref b16), .val (.long x19), .second, .val (.long x20), .second, .val (.long x21), .second, .val (.long x22), .second, .unset, .unset, .unset] [])) _
    refine Goes.by (fun _ k => XS.iload X18.here hx rfl (hb hby at_95) rfl k) ?_
    show Goes p.tables e below (T18.setTop (mkF m 97 #[.val (.int pn), .val (.int pb0), .val (.int pb1), .val (.int pb2), .val (.int pb3), .val (.int (2 : Int32)), .val (.ref b16), .val (.long x19), .second, .val (.long x20), .second, .val (.long x21), .second, .val (.long x22), .second, .unset, .unset, .unset] [(.int (2 : Int32))])) _
    refine Goes.by (fun _ k => XS.ifYes X18.here hx rfl (pc0 := 97) (pc' := 106) rfl (hb hby at_97) rfl ((if0 _ _).trans (feq (by decide : ¬ ((2 : Int32) = (0 : Int32)))).2) (by decide) (by decide) k) ?_
    show Goes p.tables e below (T18.setTop (mkF m 106 #[.val (.int pn), .val (.int pb0), .val (.int pb1), .val (.int pb2), .val (.int pb3), .val (.int (2 : Int32)), .val (.ref b16), .val (.long x19), .second, .val (.long x20), .second, .val (.long x21), .second, .val (.long x22), .second, .unset, .unset, .unset] [])) _
    refine Goes.by (fun _ k => XS.iload X18.here hx rfl (hb hby at_106) rfl k) ?_
    show Goes p.tables e below (T18.setTop (mkF m 108 #[.val (.int pn), .val (.int pb0), .val (.int pb1), .val (.int pb2), .val (.int pb3), .val (.int (2 : Int32)), .val (.ref b16), .val (.long x19), .second, .val (.long x20), .second, .val (.long x21), .second, .val (.long x22), .second, .unset, .unset, .unset] [(.int (2 : Int32))])) _
    refine Goes.by (fun _ k => XS.iconst X18.here hx rfl (hb hby at_108) k) ?_
    show Goes p.tables e below (T18.setTop (mkF m 109 #[.val (.int pn), .val (.int pb0), .val (.int pb1), .val (.int pb2), .val (.int pb3), .val (.int (2 : Int32)), .val (.ref b16), .val (.long x19), .second, .val (.long x20), .second, .val (.long x21), .second, .val (.long x22), .second, .unset, .unset, .unset] [(.int (1 : Int32)), (.int (2 : Int32))])) _
    refine Goes.by (fun _ k => XS.icmpYes X18.here hx rfl (pc0 := 109) (pc' := 119) rfl (hb hby at_109) rfl (feq (by decide : ¬ ((2 : Int32) = (1 : Int32)))).2 (by decide) (by decide) k) ?_
    show Goes p.tables e below (T18.setTop (mkF m 119 #[.val (.int pn), .val (.int pb0), .val (.int pb1), .val (.int pb2), .val (.int pb3), .val (.int (2 : Int32)), .val (.ref b16), .val (.long x19), .second, .val (.long x20), .second, .val (.long x21), .second, .val (.long x22), .second, .unset, .unset, .unset] [])) _
    refine Goes.by (fun _ k => XS.iload X18.here hx rfl (hb hby at_119) rfl k) ?_
    show Goes p.tables e below (T18.setTop (mkF m 121 #[.val (.int pn), .val (.int pb0), .val (.int pb1), .val (.int pb2), .val (.int pb3), .val (.int (2 : Int32)), .val (.ref b16), .val (.long x19), .second, .val (.long x20), .second, .val (.long x21), .second, .val (.long x22), .second, .unset, .unset, .unset] [(.int (2 : Int32))])) _
    refine Goes.by (fun _ k => XS.iconst X18.here hx rfl (hb hby at_121) k) ?_
    show Goes p.tables e below (T18.setTop (mkF m 122 #[.val (.int pn), .val (.int pb0), .val (.int pb1), .val (.int pb2), .val (.int pb3), .val (.int (2 : Int32)), .val (.ref b16), .val (.long x19), .second, .val (.long x20), .second, .val (.long x21), .second, .val (.long x22), .second, .unset, .unset, .unset] [(.int (2 : Int32)), (.int (2 : Int32))])) _
    refine Goes.by (fun _ k => XS.icmpNo X18.here hx rfl (hb hby at_122) rfl (teq (by decide : (2 : Int32) = (2 : Int32))).2 k) ?_
    show Goes p.tables e below (T18.setTop (mkF m 125 #[.val (.int pn), .val (.int pb0), .val (.int pb1), .val (.int pb2), .val (.int pb3), .val (.int (2 : Int32)), .val (.ref b16), .val (.long x19), .second, .val (.long x20), .second, .val (.long x21), .second, .val (.long x22), .second, .unset, .unset, .unset] [])) _
    refine Goes.by (fun _ k => XS.lload X18.here hx rfl (hb hby at_125) rfl k) ?_
    show Goes p.tables e below (T18.setTop (mkF m 127 #[.val (.int pn), .val (.int pb0), .val (.int pb1), .val (.int pb2), .val (.int pb3), .val (.int (2 : Int32)), .val (.ref b16), .val (.long x19), .second, .val (.long x20), .second, .val (.long x21), .second, .val (.long x22), .second, .unset, .unset, .unset] [(.long x19)])) _
    refine Goes.by (fun _ k => X18.ldc2J hx hown (mvT hZ (hw _ (List.mem_of_getElem? (i := 7) rfl))) (g := (mkF m 127 #[.val (.int pn), .val (.int pb0), .val (.int pb1), .val (.int pb2), .val (.int pb3), .val (.int (2 : Int32)), .val (.ref b16), .val (.long x19), .second, .val (.long x20), .second, .val (.long x21), .second, .val (.long x22), .second, .unset, .unset, .unset] [(.long x19)])) rfl (hb hby at_127) k) ?_
    show Goes p.tables e below (T18.setTop (mkF m 130 #[.val (.int pn), .val (.int pb0), .val (.int pb1), .val (.int pb2), .val (.int pb3), .val (.int (2 : Int32)), .val (.ref b16), .val (.long x19), .second, .val (.long x20), .second, .val (.long x21), .second, .val (.long x22), .second, .unset, .unset, .unset] [(.long (256 : Int64)), (.long x19)])) _
    refine Goes.by (fun _ k => XS.lmul X18.here hx rfl (hb hby at_130) rfl k) ?_
    show Goes p.tables e below (T18.setTop (mkF m 131 #[.val (.int pn), .val (.int pb0), .val (.int pb1), .val (.int pb2), .val (.int pb3), .val (.int (2 : Int32)), .val (.ref b16), .val (.long x19), .second, .val (.long x20), .second, .val (.long x21), .second, .val (.long x22), .second, .unset, .unset, .unset] [(.long (x19 * (256 : Int64)))])) _
    refine Goes.by (fun _ k => XS.lload X18.here hx rfl (hb hby at_131) rfl k) ?_
    show Goes p.tables e below (T18.setTop (mkF m 133 #[.val (.int pn), .val (.int pb0), .val (.int pb1), .val (.int pb2), .val (.int pb3), .val (.int (2 : Int32)), .val (.ref b16), .val (.long x19), .second, .val (.long x20), .second, .val (.long x21), .second, .val (.long x22), .second, .unset, .unset, .unset] [(.long x20), (.long (x19 * (256 : Int64)))])) _
    refine Goes.by (fun _ k => XS.ladd X18.here hx rfl (hb hby at_133) rfl k) ?_
    show Goes p.tables e below (T18.setTop (mkF m 134 #[.val (.int pn), .val (.int pb0), .val (.int pb1), .val (.int pb2), .val (.int pb3), .val (.int (2 : Int32)), .val (.ref b16), .val (.long x19), .second, .val (.long x20), .second, .val (.long x21), .second, .val (.long x22), .second, .unset, .unset, .unset] [(.long ((x19 * (256 : Int64)) + x20))])) _
    obtain ⟨x23, hx23⟩ : ∃ z : Int64, z = ((x19 * (256 : Int64)) + x20) := ⟨_, rfl⟩
    refine Goes.by (fun _ k => XS.lstore X18.here hx rfl (hb hby at_134) rfl (l' := #[.val (.int pn), .val (.int pb0), .val (.int pb1), .val (.int pb2), .val (.int pb3), .val (.int (2 : Int32)), .val (.ref b16), .val (.long x19), .second, .val (.long x20), .second, .val (.long x21), .second, .val (.long x22), .second, .val (.long x23), .second, .unset]) (by rw [hx23]; rfl) k) ?_
    show Goes p.tables e below (T18.setTop (mkF m 136 #[.val (.int pn), .val (.int pb0), .val (.int pb1), .val (.int pb2), .val (.int pb3), .val (.int (2 : Int32)), .val (.ref b16), .val (.long x19), .second, .val (.long x20), .second, .val (.long x21), .second, .val (.long x22), .second, .val (.long x23), .second, .unset] [])) _
    refine Goes.by (fun _ k => XS.goto X18.here hx rfl (pc0 := 136) (pc' := 191) rfl (hb hby at_136) (by decide) (by decide) k) ?_
    show Goes p.tables e below (T18.setTop (mkF m 191 #[.val (.int pn), .val (.int pb0), .val (.int pb1), .val (.int pb2), .val (.int pb3), .val (.int (2 : Int32)), .val (.ref b16), .val (.long x19), .second, .val (.long x20), .second, .val (.long x21), .second, .val (.long x22), .second, .val (.long x23), .second, .unset] [])) _
    refine Goes.by (fun _ k => XS.aload X18.here hx rfl (hb hby at_191) rfl rfl k) ?_
    show Goes p.tables e below (T18.setTop (mkF m 193 #[.val (.int pn), .val (.int pb0), .val (.int pb1), .val (.int pb2), .val (.int pb3), .val (.int (2 : Int32)), .val (.ref b16), .val (.long x19), .second, .val (.long x20), .second, .val (.long x21), .second, .val (.long x22), .second, .val (.long x23), .second, .unset] [(.ref b16)])) _
    obtain ⟨_, _, ⟨T24, L24, k24, n24⟩, -, X24, ⟨Lc24, hQ24, l24, y24, z24⟩, st24⟩ := Jvm.LawKit.callS X18 hx (y := (⟨"castkey/card/ModeObjects", "number", "([B)I"⟩ : MethodName)) hown (mvT hZ (hw _ (List.mem_of_getElem? (i := 2) rfl))) (mvT hZ (hw _ (List.mem_of_getElem? (i := 3) rfl))) (mvT hZ (hw _ (List.mem_of_getElem? (i := 4) rfl))) (mvT hZ (hw _ (List.mem_of_getElem? (i := 5) rfl))) (by decide) (backOf (W := 0) (rm1n2 l Z a0 hw [] b16 (up (up (fun _ => (0 : Int32)) 0 ((pb0.toInt8.toInt32).toInt8.toInt32)) 1 ((pb1.toInt8.toInt32).toInt8.toInt32)) h18 n0 Zs18 A_b16) hZ (hw _ (List.mem_of_getElem? (i := 5) rfl)) (hw _ (List.mem_of_getElem? (i := 4) rfl)) (by decide) (by decide)) (g := (mkF m 193 #[.val (.int pn), .val (.int pb0), .val (.int pb1), .val (.int pb2), .val (.int pb3), .val (.int (2 : Int32)), .val (.ref b16), .val (.long x19), .second, .val (.long x20), .second, .val (.long x21), .second, .val (.long x22), .second, .val (.long x23), .second, .unset] [(.ref b16)])) rfl (by rw [hml]; rfl) (argsL := [(.ref b16)]) (rest := []) (lenOf pd_0 rfl) rfl (by show 2 * 0 + _ ≤ _; exact Nat.le_of_eq rfl) (hb hby at_193) (fun _ _ => ⟨rfl, e18, (by decide : 1 + 0 ≤ _), (by decide : 2 + 0 ≤ _)⟩)
    dsimp only [Pt.U, Pt.locs, Pt.cells, Pt.slots] at X24 l24 y24 z24 st24 hQ24
    subst l24 y24 z24
    obtain ⟨rfl, N24q, e24⟩ := hQ24
    have N24 := Fr.app N18 N24q
    refine Goes.by st24 ?_
    show Goes p.tables e below (T24.setTop (mkF m 196 #[.val (.int pn), .val (.int pb0), .val (.int pb1), .val (.int pb2), .val (.int pb3), .val (.int (2 : Int32)), .val (.ref b16), .val (.long x19), .second, .val (.long x20), .second, .val (.long x21), .second, .val (.long x22), .second, .val (.long x23), .second, .unset] [(.int (((((0 : Int32) <<< ((8 : Int32) &&& 31)) ||| (((pb0.toInt8.toInt32).toInt8.toInt32) &&& (255 : Int32))) <<< ((8 : Int32) &&& 31)) ||| (((pb1.toInt8.toInt32).toInt8.toInt32) &&& (255 : Int32))))])) _
    obtain ⟨x25, hx25⟩ : ∃ z : Int32, z = (((((0 : Int32) <<< ((8 : Int32) &&& 31)) ||| (((pb0.toInt8.toInt32).toInt8.toInt32) &&& (255 : Int32))) <<< ((8 : Int32) &&& 31)) ||| (((pb1.toInt8.toInt32).toInt8.toInt32) &&& (255 : Int32))) := ⟨_, rfl⟩
    refine Goes.by (fun _ k => XS.istore X24.here hx rfl (hb hby at_196) rfl (l' := #[.val (.int pn), .val (.int pb0), .val (.int pb1), .val (.int pb2), .val (.int pb3), .val (.int (2 : Int32)), .val (.ref b16), .val (.long x19), .second, .val (.long x20), .second, .val (.long x21), .second, .val (.long x22), .second, .val (.long x23), .second, .val (.int x25)]) (by rw [hx25]; rfl) k) ?_
    show Goes p.tables e below (T24.setTop (mkF m 198 #[.val (.int pn), .val (.int pb0), .val (.int pb1), .val (.int pb2), .val (.int pb3), .val (.int (2 : Int32)), .val (.ref b16), .val (.long x19), .second, .val (.long x20), .second, .val (.long x21), .second, .val (.long x22), .second, .val (.long x23), .second, .val (.int x25)] [])) _
    refine Goes.by (fun _ k => XS.iload X24.here hx rfl (hb hby at_198) rfl k) ?_
    show Goes p.tables e below (T24.setTop (mkF m 200 #[.val (.int pn), .val (.int pb0), .val (.int pb1), .val (.int pb2), .val (.int pb3), .val (.int (2 : Int32)), .val (.ref b16), .val (.long x19), .second, .val (.long x20), .second, .val (.long x21), .second, .val (.long x22), .second, .val (.long x23), .second, .val (.int x25)] [(.int x25)])) _
    refine Goes.by (fun _ k => XS.lload X24.here hx rfl (hb hby at_200) rfl k) ?_
    show Goes p.tables e below (T24.setTop (mkF m 202 #[.val (.int pn), .val (.int pb0), .val (.int pb1), .val (.int pb2), .val (.int pb3), .val (.int (2 : Int32)), .val (.ref b16), .val (.long x19), .second, .val (.long x20), .second, .val (.long x21), .second, .val (.long x22), .second, .val (.long x23), .second, .val (.int x25)] [(.long x23), (.int x25)])) _
    refine Goes.by (fun _ k => XS.l2i X24.here hx rfl (hb hby at_202) rfl k) ?_
    show Goes p.tables e below (T24.setTop (mkF m 203 #[.val (.int pn), .val (.int pb0), .val (.int pb1), .val (.int pb2), .val (.int pb3), .val (.int (2 : Int32)), .val (.ref b16), .val (.long x19), .second, .val (.long x20), .second, .val (.long x21), .second, .val (.long x22), .second, .val (.long x23), .second, .val (.int x25)] [(.int (x23.toInt32)), (.int x25)])) _
    refine Goes.by (fun _ k => XS.icmpNo X24.here hx rfl (hb hby at_203) rfl (teq (by rw [hx25, hx23, hx19, hx20]; exact own_c2 pb0 pb1 pb2 pb3 : x25 = (x23.toInt32))).2 k) ?_
    show Goes p.tables e below (T24.setTop (mkF m 206 #[.val (.int pn), .val (.int pb0), .val (.int pb1), .val (.int pb2), .val (.int pb3), .val (.int (2 : Int32)), .val (.ref b16), .val (.long x19), .second, .val (.long x20), .second, .val (.long x21), .second, .val (.long x22), .second, .val (.long x23), .second, .val (.int x25)] [])) _
    refine Goes.by (fun _ k => XS.iconst X24.here hx rfl (hb hby at_206) k) ?_
    show Goes p.tables e below (T24.setTop (mkF m 207 #[.val (.int pn), .val (.int pb0), .val (.int pb1), .val (.int pb2), .val (.int pb3), .val (.int (2 : Int32)), .val (.ref b16), .val (.long x19), .second, .val (.long x20), .second, .val (.long x21), .second, .val (.long x22), .second, .val (.long x23), .second, .val (.int x25)] [(.int (1 : Int32))])) _
    refine Goes.by (fun _ k => XS.goto X24.here hx rfl (pc0 := 207) (pc' := 211) rfl (hb hby at_207) (by decide) (by decide) k) ?_
    show Goes p.tables e below (T24.setTop (mkF m 211 #[.val (.int pn), .val (.int pb0), .val (.int pb1), .val (.int pb2), .val (.int pb3), .val (.int (2 : Int32)), .val (.ref b16), .val (.long x19), .second, .val (.long x20), .second, .val (.long x21), .second, .val (.long x22), .second, .val (.long x23), .second, .val (.int x25)] [(.int (1 : Int32))])) _
    obtain ⟨fs, hr, hrun, hended, hW, hsame⟩ := X24.leave (v := some (.int (1 : Int32))) (fun h => by rw [Bd.returns] at h; cases h)
    refine ⟨_, _, retN X24 hx (t := .boolean) Bd.returns (by simp) (hb hby at_211) hr, hrun, hended, _, _, rfl, ?_, ⟨_, rfl⟩, hW, hsame.mono (by decide) (by decide)⟩
    show Q0 Z pn pb0 pb1 pb2 pb3 h0 n0 _ T24.heap _
    rw [e24]
    exact ⟨rfl, N24⟩
  · subst qc
    show Goes p.tables e below (s₁.setTop (mkF m 8 #[.val (.int pn), .val (.int pb0), .val (.int pb1), .val (.int pb2), .val (.int pb3), .val (.int (3 : Int32)), .unset, .unset, .unset, .unset, .unset, .unset, .unset, .unset, .unset, .unset, .unset, .unset] [])) _
    refine Goes.by (fun _ k => XS.iload X0.here hx rfl (hb hby at_8) rfl k) ?_
    show Goes p.tables e below (s₁.setTop (mkF m 10 #[.val (.int pn), .val (.int pb0), .val (.int pb1), .val (.int pb2), .val (.int pb3), .val (.int (3 : Int32)), .unset, .unset, .unset, .unset, .unset, .unset, .unset, .unset, .unset, .unset, .unset, .unset] [(.int (3 : Int32))])) _
    obtain ⟨T26, h26, X26, e26, E26, A26, st26⟩ := nwA (n := 3) (cap := 3) (fr := (mkF m 10 #[.val (.int pn), .val (.int pb0), .val (.int pb1), .val (.int pb2), .val (.int pb3), .val (.int (3 : Int32)), .unset, .unset, .unset, .unset, .unset, .unset, .unset, .unset, .unset, .unset, .unset, .unset] [(.int (3 : Int32))])) X0 hx hZ (hw _ (List.mem_of_getElem? (i := 1) rfl)) e0 (by decide) (by decide) (by decide) (by decide) (by decide) rfl rfl (hb hby at_10)
    obtain ⟨b26, g26⟩ : ∃ z, z = h0.size := ⟨_, rfl⟩
    rw [← g26] at A26 st26
    have g_b26 : n0 ≤ b26 := Nat.le_trans Z0 (Nat.le_of_eq g26.symm)
    have sz_b26 : h0.size ≤ b26 := Nat.le_trans (Keep.refl h0 []).1 (Nat.le_of_eq g26.symm)
    have Zs26 : n0 ≤ h26.size := Nat.le_trans Z0 E26.1
    have K26 : Keep h0 h26 [] := (Keep.refl h0 []).ext E26
    refine Goes.by st26 ?_
    have A_b26 : AI Z h26 b26 .byte 3 (fun _ => (0 : Int32)) := A26
    show Goes p.tables e below (T26.setTop (mkF m 12 #[.val (.int pn), .val (.int pb0), .val (.int pb1), .val (.int pb2), .val (.int pb3), .val (.int (3 : Int32)), .unset, .unset, .unset, .unset, .unset, .unset, .unset, .unset, .unset, .unset, .unset, .unset] [(.ref b26)])) _
    refine Goes.by (fun _ k => XS.astore X26.here hx rfl (hb hby at_12) rfl rfl (l' := #[.val (.int pn), .val (.int pb0), .val (.int pb1), .val (.int pb2), .val (.int pb3), .val (.int (3 : Int32)), .val (.ref b26), .unset, .unset, .unset, .unset, .unset, .unset, .unset, .unset, .unset, .unset, .unset]) rfl k) ?_
    show Goes p.tables e below (T26.setTop (mkF m 14 #[.val (.int pn), .val (.int pb0), .val (.int pb1), .val (.int pb2), .val (.int pb3), .val (.int (3 : Int32)), .val (.ref b26), .unset, .unset, .unset, .unset, .unset, .unset, .unset, .unset, .unset, .unset, .unset] [])) _
    refine Goes.by (fun _ k => XS.iload X26.here hx rfl (hb hby at_14) rfl k) ?_
    show Goes p.tables e below (T26.setTop (mkF m 16 #[.val (.int pn), .val (.int pb0), .val (.int pb1), .val (.int pb2), .val (.int pb3), .val (.int (3 : Int32)), .val (.ref b26), .unset, .unset, .unset, .unset, .unset, .unset, .unset, .unset, .unset, .unset, .unset] [(.int (3 : Int32))])) _
    refine Goes.by (fun _ k => XS.ifNo X26.here hx rfl (hb hby at_16) rfl ((if0 _ _).trans (tlt (by decide : (0 : Int32) < (3 : Int32))).2.2.2) k) ?_
    show Goes p.tables e below (T26.setTop (mkF m 19 #[.val (.int pn), .val (.int pb0), .val (.int pb1), .val (.int pb2), .val (.int pb3), .val (.int (3 : Int32)), .val (.ref b26), .unset, .unset, .unset, .unset, .unset, .unset, .unset, .unset, .unset, .unset, .unset] [])) _
    refine Goes.by (fun _ k => XS.aload X26.here hx rfl (hb hby at_19) rfl rfl k) ?_
    show Goes p.tables e below (T26.setTop (mkF m 21 #[.val (.int pn), .val (.int pb0), .val (.int pb1), .val (.int pb2), .val (.int pb3), .val (.int (3 : Int32)), .val (.ref b26), .unset, .unset, .unset, .unset, .unset, .unset, .unset, .unset, .unset, .unset, .unset] [(.ref b26)])) _
    refine Goes.by (fun _ k => XS.iconst X26.here hx rfl (hb hby at_21) k) ?_
    show Goes p.tables e below (T26.setTop (mkF m 22 #[.val (.int pn), .val (.int pb0), .val (.int pb1), .val (.int pb2), .val (.int pb3), .val (.int (3 : Int32)), .val (.ref b26), .unset, .unset, .unset, .unset, .unset, .unset, .unset, .unset, .unset, .unset, .unset] [(.int (0 : Int32)), (.ref b26)])) _
    refine Goes.by (fun _ k => XS.iloadN X26.here hx rfl (hb hby at_22) rfl k) ?_
    show Goes p.tables e below (T26.setTop (mkF m 23 #[.val (.int pn), .val (.int pb0), .val (.int pb1), .val (.int pb2), .val (.int pb3), .val (.int (3 : Int32)), .val (.ref b26), .unset, .unset, .unset, .unset, .unset, .unset, .unset, .unset, .unset, .unset, .unset] [(.int pb0), (.int (0 : Int32)), (.ref b26)])) _
    refine Goes.by (fun _ k => XS.i2b X26.here hx rfl (hb hby at_23) rfl k) ?_
    show Goes p.tables e below (T26.setTop (mkF m 24 #[.val (.int pn), .val (.int pb0), .val (.int pb1), .val (.int pb2), .val (.int pb3), .val (.int (3 : Int32)), .val (.ref b26), .unset, .unset, .unset, .unset, .unset, .unset, .unset, .unset, .unset, .unset, .unset] [(.int (pb0.toInt8.toInt32)), (.int (0 : Int32)), (.ref b26)])) _
    obtain ⟨T27, h27, X27, e27, W27, A27, st27⟩ := stAB (fr := (mkF m 24 #[.val (.int pn), .val (.int pb0), .val (.int pb1), .val (.int pb2), .val (.int pb3), .val (.int (3 : Int32)), .val (.ref b26), .unset, .unset, .unset, .unset, .unset, .unset, .unset, .unset, .unset, .unset, .unset] [(.int (pb0.toInt8.toInt32)), (.int (0 : Int32)), (.ref b26)])) X26 hx hZ e26 A_b26 (i := 0) (by decide) (by decide) rfl rfl (hb hby at_24)
    refine Goes.by st27 ?_
    have A_b26 : AI Z h27 b26 .byte 3 (up (fun _ => (0 : Int32)) 0 ((pb0.toInt8.toInt32).toInt8.toInt32)) := A27
    have N27 := Fr.snoc X27 N0 g_b26
    have Zs27 : n0 ≤ h27.size := Nat.le_trans Zs26 (Keep.of_wr W27).1
    have K27 : Keep h0 h27 [] := K26.wr W27 (Or.inr sz_b26)
    show Goes p.tables e below (T27.setTop (mkF m 25 #[.val (.int pn), .val (.int pb0), .val (.int pb1), .val (.int pb2), .val (.int pb3), .val (.int (3 : Int32)), .val (.ref b26), .unset, .unset, .unset, .unset, .unset, .unset, .unset, .unset, .unset, .unset, .unset] [])) _
    refine Goes.by (fun _ k => XS.iload X27.here hx rfl (hb hby at_25) rfl k) ?_
    show Goes p.tables e below (T27.setTop (mkF m 27 #[.val (.int pn), .val (.int pb0), .val (.int pb1), .val (.int pb2), .val (.int pb3), .val (.int (3 : Int32)), .val (.ref b26), .unset, .unset, .unset, .unset, .unset, .unset, .unset, .unset, .unset, .unset, .unset] [(.int (3 : Int32))])) _
    refine Goes.by (fun _ k => XS.iconst X27.here hx rfl (hb hby at_27) k) ?_
    show Goes p.tables e below (T27.setTop (mkF m 28 #[.val (.int pn), .val (.int pb0), .val (.int pb1), .val (.int pb2), .val (.int pb3), .val (.int (3 : Int32)), .val (.ref b26), .unset, .unset, .unset, .unset, .unset, .unset, .unset, .unset, .unset, .unset, .unset] [(.int (1 : Int32)), (.int (3 : Int32))])) _
    refine Goes.by (fun _ k => XS.icmpNo X27.here hx rfl (hb hby at_28) rfl (tlt (by decide : (1 : Int32) < (3 : Int32))).2.2.2 k) ?_
    show Goes p.tables e below (T27.setTop (mkF m 31 #[.val (.int pn), .val (.int pb0), .val (.int pb1), .val (.int pb2), .val (.int pb3), .val (.int (3 : Int32)), .val (.ref b26), .unset, .unset, .unset, .unset, .unset, .unset, .unset, .unset, .unset, .unset, .unset] [])) _
    refine Goes.by (fun _ k => XS.aload X27.here hx rfl (hb hby at_31) rfl rfl k) ?_
    show Goes p.tables e below (T27.setTop (mkF m 33 #[.val (.int pn), .val (.int pb0), .val (.int pb1), .val (.int pb2), .val (.int pb3), .val (.int (3 : Int32)), .val (.ref b26), .unset, .unset, .unset, .unset, .unset, .unset, .unset, .unset, .unset, .unset, .unset] [(.ref b26)])) _
    refine Goes.by (fun _ k => XS.iconst X27.here hx rfl (hb hby at_33) k) ?_
    show Goes p.tables e below (T27.setTop (mkF m 34 #[.val (.int pn), .val (.int pb0), .val (.int pb1), .val (.int pb2), .val (.int pb3), .val (.int (3 : Int32)), .val (.ref b26), .unset, .unset, .unset, .unset, .unset, .unset, .unset, .unset, .unset, .unset, .unset] [(.int (1 : Int32)), (.ref b26)])) _
    refine Goes.by (fun _ k => XS.iloadN X27.here hx rfl (hb hby at_34) rfl k) ?_
    show Goes p.tables e below (T27.setTop (mkF m 35 #[.val (.int pn), .val (.int pb0), .val (.int pb1), .val (.int pb2), .val (.int pb3), .val (.int (3 : Int32)), .val (.ref b26), .unset, .unset, .unset, .unset, .unset, .unset, .unset, .unset, .unset, .unset, .unset] [(.int pb1), (.int (1 : Int32)), (.ref b26)])) _
    refine Goes.by (fun _ k => XS.i2b X27.here hx rfl (hb hby at_35) rfl k) ?_
    show Goes p.tables e below (T27.setTop (mkF m 36 #[.val (.int pn), .val (.int pb0), .val (.int pb1), .val (.int pb2), .val (.int pb3), .val (.int (3 : Int32)), .val (.ref b26), .unset, .unset, .unset, .unset, .unset, .unset, .unset, .unset, .unset, .unset, .unset] [(.int (pb1.toInt8.toInt32)), (.int (1 : Int32)), (.ref b26)])) _
    obtain ⟨T28, h28, X28, e28, W28, A28, st28⟩ := stAB (fr := (mkF m 36 #[.val (.int pn), .val (.int pb0), .val (.int pb1), .val (.int pb2), .val (.int pb3), .val (.int (3 : Int32)), .val (.ref b26), .unset, .unset, .unset, .unset, .unset, .unset, .unset, .unset, .unset, .unset, .unset] [(.int (pb1.toInt8.toInt32)), (.int (1 : Int32)), (.ref b26)])) X27 hx hZ e27 A_b26 (i := 1) (by decide) (by decide) rfl rfl (hb hby at_36)
    refine Goes.by st28 ?_
    have A_b26 : AI Z h28 b26 .byte 3 (up (up (fun _ => (0 : Int32)) 0 ((pb0.toInt8.toInt32).toInt8.toInt32)) 1 ((pb1.toInt8.toInt32).toInt8.toInt32)) := A28
    have N28 := Fr.snoc X28 N27 g_b26
    have Zs28 : n0 ≤ h28.size := Nat.le_trans Zs27 (Keep.of_wr W28).1
    have K28 : Keep h0 h28 [] := K27.wr W28 (Or.inr sz_b26)
    show Goes p.tables e below (T28.setTop (mkF m 37 #[.val (.int pn), .val (.int pb0), .val (.int pb1), .val (.int pb2), .val (.int pb3), .val (.int (3 : Int32)), .val (.ref b26), .unset, .unset, .unset, .unset, .unset, .unset, .unset, .unset, .unset, .unset, .unset] [])) _
    refine Goes.by (fun _ k => XS.iload X28.here hx rfl (hb hby at_37) rfl k) ?_
    show Goes p.tables e below (T28.setTop (mkF m 39 #[.val (.int pn), .val (.int pb0), .val (.int pb1), .val (.int pb2), .val (.int pb3), .val (.int (3 : Int32)), .val (.ref b26), .unset, .unset, .unset, .unset, .unset, .unset, .unset, .unset, .unset, .unset, .unset] [(.int (3 : Int32))])) _
    refine Goes.by (fun _ k => XS.iconst X28.here hx rfl (hb hby at_39) k) ?_
    show Goes p.tables e below (T28.setTop (mkF m 40 #[.val (.int pn), .val (.int pb0), .val (.int pb1), .val (.int pb2), .val (.int pb3), .val (.int (3 : Int32)), .val (.ref b26), .unset, .unset, .unset, .unset, .unset, .unset, .unset, .unset, .unset, .unset, .unset] [(.int (2 : Int32)), (.int (3 : Int32))])) _
    refine Goes.by (fun _ k => XS.icmpNo X28.here hx rfl (hb hby at_40) rfl (tlt (by decide : (2 : Int32) < (3 : Int32))).2.2.2 k) ?_
    show Goes p.tables e below (T28.setTop (mkF m 43 #[.val (.int pn), .val (.int pb0), .val (.int pb1), .val (.int pb2), .val (.int pb3), .val (.int (3 : Int32)), .val (.ref b26), .unset, .unset, .unset, .unset, .unset, .unset, .unset, .unset, .unset, .unset, .unset] [])) _
    refine Goes.by (fun _ k => XS.aload X28.here hx rfl (hb hby at_43) rfl rfl k) ?_
    show Goes p.tables e below (T28.setTop (mkF m 45 #[.val (.int pn), .val (.int pb0), .val (.int pb1), .val (.int pb2), .val (.int pb3), .val (.int (3 : Int32)), .val (.ref b26), .unset, .unset, .unset, .unset, .unset, .unset, .unset, .unset, .unset, .unset, .unset] [(.ref b26)])) _
    refine Goes.by (fun _ k => XS.iconst X28.here hx rfl (hb hby at_45) k) ?_
    show Goes p.tables e below (T28.setTop (mkF m 46 #[.val (.int pn), .val (.int pb0), .val (.int pb1), .val (.int pb2), .val (.int pb3), .val (.int (3 : Int32)), .val (.ref b26), .unset, .unset, .unset, .unset, .unset, .unset, .unset, .unset, .unset, .unset, .unset] [(.int (2 : Int32)), (.ref b26)])) _
    refine Goes.by (fun _ k => XS.iloadN X28.here hx rfl (hb hby at_46) rfl k) ?_
    show Goes p.tables e below (T28.setTop (mkF m 47 #[.val (.int pn), .val (.int pb0), .val (.int pb1), .val (.int pb2), .val (.int pb3), .val (.int (3 : Int32)), .val (.ref b26), .unset, .unset, .unset, .unset, .unset, .unset, .unset, .unset, .unset, .unset, .unset] [(.int pb2), (.int (2 : Int32)), (.ref b26)])) _
    refine Goes.by (fun _ k => XS.i2b X28.here hx rfl (hb hby at_47) rfl k) ?_
    show Goes p.tables e below (T28.setTop (mkF m 48 #[.val (.int pn), .val (.int pb0), .val (.int pb1), .val (.int pb2), .val (.int pb3), .val (.int (3 : Int32)), .val (.ref b26), .unset, .unset, .unset, .unset, .unset, .unset, .unset, .unset, .unset, .unset, .unset] [(.int (pb2.toInt8.toInt32)), (.int (2 : Int32)), (.ref b26)])) _
    obtain ⟨T29, h29, X29, e29, W29, A29, st29⟩ := stAB (fr := (mkF m 48 #[.val (.int pn), .val (.int pb0), .val (.int pb1), .val (.int pb2), .val (.int pb3), .val (.int (3 : Int32)), .val (.ref b26), .unset, .unset, .unset, .unset, .unset, .unset, .unset, .unset, .unset, .unset, .unset] [(.int (pb2.toInt8.toInt32)), (.int (2 : Int32)), (.ref b26)])) X28 hx hZ e28 A_b26 (i := 2) (by decide) (by decide) rfl rfl (hb hby at_48)
    refine Goes.by st29 ?_
    have A_b26 : AI Z h29 b26 .byte 3 (up (up (up (fun _ => (0 : Int32)) 0 ((pb0.toInt8.toInt32).toInt8.toInt32)) 1 ((pb1.toInt8.toInt32).toInt8.toInt32)) 2 ((pb2.toInt8.toInt32).toInt8.toInt32)) := A29
    have N29 := Fr.snoc X29 N28 g_b26
    have Zs29 : n0 ≤ h29.size := Nat.le_trans Zs28 (Keep.of_wr W29).1
    have K29 : Keep h0 h29 [] := K28.wr W29 (Or.inr sz_b26)
    show Goes p.tables e below (T29.setTop (mkF m 49 #[.val (.int pn), .val (.int pb0), .val (.int pb1), .val (.int pb2), .val (.int pb3), .val (.int (3 : Int32)), .val (.ref b26), .unset, .unset, .unset, .unset, .unset, .unset, .unset, .unset, .unset, .unset, .unset] [])) _
    refine Goes.by (fun _ k => XS.iload X29.here hx rfl (hb hby at_49) rfl k) ?_
    show Goes p.tables e below (T29.setTop (mkF m 51 #[.val (.int pn), .val (.int pb0), .val (.int pb1), .val (.int pb2), .val (.int pb3), .val (.int (3 : Int32)), .val (.ref b26), .unset, .unset, .unset, .unset, .unset, .unset, .unset, .unset, .unset, .unset, .unset] [(.int (3 : Int32))])) _
    refine Goes.by (fun _ k => XS.iconst X29.here hx rfl (hb hby at_51) k) ?_
    show Goes p.tables e below (T29.setTop (mkF m 52 #[.val (.int pn), .val (.int pb0), .val (.int pb1), .val (.int pb2), .val (.int pb3), .val (.int (3 : Int32)), .val (.ref b26), .unset, .unset, .unset, .unset, .unset, .unset, .unset, .unset, .unset, .unset, .unset] [(.int (3 : Int32)), (.int (3 : Int32))])) _
    refine Goes.by (fun _ k => XS.icmpYes X29.here hx rfl (pc0 := 52) (pc' := 62) rfl (hb hby at_52) rfl (flt (by decide : ¬ ((3 : Int32) < (3 : Int32)))).2.2.2 (by decide) (by decide) k) ?_
    show Goes p.tables e below (T29.setTop (mkF m 62 #[.val (.int pn), .val (.int pb0), .val (.int pb1), .val (.int pb2), .val (.int pb3), .val (.int (3 : Int32)), .val (.ref b26), .unset, .unset, .unset, .unset, .unset, .unset, .unset, .unset, .unset, .unset, .unset] [])) _
    refine Goes.by (fun _ k => XS.iloadN X29.here hx rfl (hb hby at_62) rfl k) ?_
    show Goes p.tables e below (T29.setTop (mkF m 63 #[.val (.int pn), .val (.int pb0), .val (.int pb1), .val (.int pb2), .val (.int pb3), .val (.int (3 : Int32)), .val (.ref b26), .unset, .unset, .unset, .unset, .unset, .unset, .unset, .unset, .unset, .unset, .unset] [(.int pb0)])) _
    refine Goes.by (fun _ k => XS.sipush X29.here hx rfl (hb hby at_63) k) ?_
    show Goes p.tables e below (T29.setTop (mkF m 66 #[.val (.int pn), .val (.int pb0), .val (.int pb1), .val (.int pb2), .val (.int pb3), .val (.int (3 : Int32)), .val (.ref b26), .unset, .unset, .unset, .unset, .unset, .unset, .unset, .unset, .unset, .unset, .unset] [(.int (255 : Int32)), (.int pb0)])) _
    refine Goes.by (fun _ k => XS.iand X29.here hx rfl (hb hby at_66) rfl k) ?_
    show Goes p.tables e below (T29.setTop (mkF m 67 #[.val (.int pn), .val (.int pb0), .val (.int pb1), .val (.int pb2), .val (.int pb3), .val (.int (3 : Int32)), .val (.ref b26), .unset, .unset, .unset, .unset, .unset, .unset, .unset, .unset, .unset, .unset, .unset] [(.int (pb0 &&& (255 : Int32)))])) _
    refine Goes.by (fun _ k => XS.i2l X29.here hx rfl (hb hby at_67) rfl k) ?_
    show Goes p.tables e below (T29.setTop (mkF m 68 #[.val (.int pn), .val (.int pb0), .val (.int pb1), .val (.int pb2), .val (.int pb3), .val (.int (3 : Int32)), .val (.ref b26), .unset, .unset, .unset, .unset, .unset, .unset, .unset, .unset, .unset, .unset, .unset] [(.long ((pb0 &&& (255 : Int32)).toInt64))])) _
    obtain ⟨x30, hx30⟩ : ∃ z : Int64, z = ((pb0 &&& (255 : Int32)).toInt64) := ⟨_, rfl⟩
    refine Goes.by (fun _ k => XS.lstore X29.here hx rfl (hb hby at_68) rfl (l' := #[.val (.int pn), .val (.int pb0), .val (.int pb1), .val (.int pb2), .val (.int pb3), .val (.int (3 : Int32)), .val (.ref b26), .val (.long x30), .second, .unset, .unset, .unset, .unset, .unset, .unset, .unset, .unset, .unset]) (by rw [hx30]; rfl) k) ?_
    show Goes p.tables e below (T29.setTop (mkF m 70 #[.val (.int pn), .val (.int pb0), .val (.int pb1), .val (.int pb2), .val (.int pb3), .val (.int (3 : Int32)), .val (.ref b26), .val (.long x30), .second, .unset, .unset, .unset, .unset, .unset, .unset, .unset, .unset, .unset] [])) _
    refine Goes.by (fun _ k => XS.iloadN X29.here hx rfl (hb hby at_70) rfl k) ?_
    show Goes p.tables e below (T29.setTop (mkF m 71 #[.val (.int pn), .val (.int pb0), .val (.int pb1), .val (.int pb2), .val (.int pb3), .val (.int (3 : Int32)), .val (.ref b26), .val (.long x30), .second, .unset, .unset, .unset, .unset, .unset, .unset, .unset, .unset, .unset] [(.int pb1)])) _
    refine Goes.by (fun _ k => XS.sipush X29.here hx rfl (hb hby at_71) k) ?_
    show Goes p.tables e below (T29.setTop (mkF m 74 #[.val (.int pn), .val (.int pb0), .val (.int pb1), .val (.int pb2), .val (.int pb3), .val (.int (3 : Int32)), .val (.ref b26), .val (.long x30), .second, .unset, .unset, .unset, .unset, .unset, .unset, .unset, .unset, .unset] [(.int (255 : Int32)), (.int pb1)])) _
    refine Goes.by (fun _ k => XS.iand X29.here hx rfl (hb hby at_74) rfl k) ?_
    show Goes p.tables e below (T29.setTop (mkF m 75 #[.val (.int pn), .val (.int pb0), .val (.int pb1), .val (.int pb2), .val (.int pb3), .val (.int (3 : Int32)), .val (.ref b26), .val (.long x30), .second, .unset, .unset, .unset, .unset, .unset, .unset, .unset, .unset, .unset] [(.int (pb1 &&& (255 : Int32)))])) _
    refine Goes.by (fun _ k => XS.i2l X29.here hx rfl (hb hby at_75) rfl k) ?_
    show Goes p.tables e below (T29.setTop (mkF m 76 #[.val (.int pn), .val (.int pb0), .val (.int pb1), .val (.int pb2), .val (.int pb3), .val (.int (3 : Int32)), .val (.ref b26), .val (.long x30), .second, .unset, .unset, .unset, .unset, .unset, .unset, .unset, .unset, .unset] [(.long ((pb1 &&& (255 : Int32)).toInt64))])) _
    obtain ⟨x31, hx31⟩ : ∃ z : Int64, z = ((pb1 &&& (255 : Int32)).toInt64) := ⟨_, rfl⟩
    refine Goes.by (fun _ k => XS.lstore X29.here hx rfl (hb hby at_76) rfl (l' := #[.val (.int pn), .val (.int pb0), .val (.int pb1), .val (.int pb2), .val (.int pb3), .val (.int (3 : Int32)), .val (.ref b26), .val (.long x30), .second, .val (.long x31), .second, .unset, .unset, .unset, .unset, .unset, .unset, .unset]) (by rw [hx31]; rfl) k) ?_
    show Goes p.tables e below (T29.setTop (mkF m 78 #[.val (.int pn), .val (.int pb0), .val (.int pb1), .val (.int pb2), .val (.int pb3), .val (.int (3 : Int32)), .val (.ref b26), .val (.long x30), .second, .val (.long x31), .second, .unset, .unset, .unset, .unset, .unset, .unset, .unset] [])) _
    refine Goes.by (fun _ k => XS.iloadN X29.here hx rfl (hb hby at_78) rfl k) ?_
    show Goes p.tables e below (T29.setTop (mkF m 79 #[.val (.int pn), .val (.int pb0), .val (.int pb1), .val (.int pb2), .val (.int pb3), .val (.int (3 : Int32)), .val (.ref b26), .val (.long x30), .second, .val (.long x31), .second, .unset, .unset, .unset, .unset, .unset, .unset, .unset] [(.int pb2)])) _
    refine Goes.by (fun _ k => XS.sipush X29.here hx rfl (hb hby at_79) k) ?_
    show Goes p.tables e below (T29.setTop (mkF m 82 #[.val (.int pn), .val (.int pb0), .val (.int pb1), .val (.int pb2), .val (.int pb3), .val (.int (3 : Int32)), .val (.ref b26), .val (.long x30), .second, .val (.long x31), .second, .unset, .unset, .unset, .unset, .unset, .unset, .unset] [(.int (255 : Int32)), (.int pb2)])) _
    refine Goes.by (fun _ k => XS.iand X29.here hx rfl (hb hby at_82) rfl k) ?_
    show Goes p.tables e below (T29.setTop (mkF m 83 #[.val (.int pn), .val (.int pb0), .val (.int pb1), .val (.int pb2), .val (.int pb3), .val (.int (3 : Int32)), .val (.ref b26), .val (.long x30), .second, .val (.long x31), .second, .unset, .unset, .unset, .unset, .unset, .unset, .unset] [(.int (pb2 &&& (255 : Int32)))])) _
    refine Goes.by (fun _ k => XS.i2l X29.here hx rfl (hb hby at_83) rfl k) ?_
    show Goes p.tables e below (T29.setTop (mkF m 84 #[.val (.int pn), .val (.int pb0), .val (.int pb1), .val (.int pb2), .val (.int pb3), .val (.int (3 : Int32)), .val (.ref b26), .val (.long x30), .second, .val (.long x31), .second, .unset, .unset, .unset, .unset, .unset, .unset, .unset] [(.long ((pb2 &&& (255 : Int32)).toInt64))])) _
    obtain ⟨x32, hx32⟩ : ∃ z : Int64, z = ((pb2 &&& (255 : Int32)).toInt64) := ⟨_, rfl⟩
    refine Goes.by (fun _ k => XS.lstore X29.here hx rfl (hb hby at_84) rfl (l' := #[.val (.int pn), .val (.int pb0), .val (.int pb1), .val (.int pb2), .val (.int pb3), .val (.int (3 : Int32)), .val (.ref b26), .val (.long x30), .second, .val (.long x31), .second, .val (.long x32), .second, .unset, .unset, .unset, .unset, .unset]) (by rw [hx32]; rfl) k) ?_
    show Goes p.tables e below (T29.setTop (mkF m 86 #[.val (.int pn), .val (.int pb0), .val (.int pb1), .val (.int pb2), .val (.int pb3), .val (.int (3 : Int32)), .val (.ref b26), .val (.long x30), .second, .val (.long x31), .second, .val (.long x32), .second, .unset, .unset, .unset, .unset, .unset] [])) _
    refine Goes.by (fun _ k => XS.iload X29.here hx rfl (hb hby at_86) rfl k) ?_
    show Goes p.tables e below (T29.setTop (mkF m 88 #[.val (.int pn), .val (.int pb0), .val (.int pb1), .val (.int pb2), .val (.int pb3), .val (.int (3 : Int32)), .val (.ref b26), .val (.long x30), .second, .val (.long x31), .second, .val (.long x32), .second, .unset, .unset, .unset, .unset, .unset] [(.int pb3)])) _
    refine Goes.by (fun _ k => XS.sipush X29.here hx rfl (hb hby at_88) k) ?_
    show Goes p.tables e below (T29.setTop (mkF m 91 #[.val (.int pn), .val (.int pb0), .val (.int pb1), .val (.int pb2), .val (.int pb3), .val (.int (3 : Int32)), .val (.ref b26), .val (.long x30), .second, .val (.long x31), .second, .val (.long x32), .second, .unset, .unset, .unset, .unset, .unset] [(.int (255 : Int32)), (.int pb3)])) _
    refine Goes.by (fun _ k => XS.iand X29.here hx rfl (hb hby at_91) rfl k) ?_
    show Goes p.tables e below (T29.setTop (mkF m 92 #[.val (.int pn), .val (.int pb0), .val (.int pb1), .val (.int pb2), .val (.int pb3), .val (.int (3 : Int32)), .val (.ref b26), .val (.long x30), .second, .val (.long x31), .second, .val (.long x32), .second, .unset, .unset, .unset, .unset, .unset] [(.int (pb3 &&& (255 : Int32)))])) _
    refine Goes.by (fun _ k => XS.i2l X29.here hx rfl (hb hby at_92) rfl k) ?_
    show Goes p.tables e below (T29.setTop (mkF m 93 #[.val (.int pn), .val (.int pb0), .val (.int pb1), .val (.int pb2), .val (.int pb3), .val (.int (3 : Int32)), .val (.ref b26), .val (.long x30), .second, .val (.long x31), .second, .val (.long x32), .second, .unset, .unset, .unset, .unset, .unset] [(.long ((pb3 &&& (255 : Int32)).toInt64))])) _
    obtain ⟨x33, hx33⟩ : ∃ z : Int64, z = ((pb3 &&& (255 : Int32)).toInt64) := ⟨_, rfl⟩
    refine Goes.by (fun _ k => XS.lstore X29.here hx rfl (hb hby at_93) rfl (l' := #[.val (.int pn), .val (.int pb0), .val (.int pb1), .val (.int pb2), .val (.int pb3), .val (.int (3 : Int32)), .val (.ref b26), .val (.long x30), .second, .val (.long x31), .second, .val (.long x32), .second, .val (.long x33), .second, .unset, .unset, .unset]) (by rw [hx33]; rfl) k) ?_
    show Goes p.tables e below (T29.setTop (mkF m 95 #[.val (.int pn), .val (.int pb0), .val (.int pb1), .val (.int pb2), .val (.int pb3), .val (.int (3 : Int32)), .val (.ref b26), .val (.long x30), .second, .val (.long x31), .second, .val (.long x32), .second, .val (.long x33), .second, .unset, .unset, .unset] [])) _
    refine Goes.by (fun _ k => XS.iload X29.here hx rfl (hb hby at_95) rfl k) ?_
    show Goes p.tables e below (T29.setTop (mkF m 97 #[.val (.int pn), .val (.int pb0), .val (.int pb1), .val (.int pb2), .val (.int pb3), .val (.int (3 : Int32)), .val (.ref b26), .val (.long x30), .second, .val (.long x31), .second, .val (.long x32), .second, .val (.long x33), .second, .unset, .unset, .unset] [(.int (3 : Int32))])) _
    refine Goes.by (fun _ k => XS.ifYes X29.here hx rfl (pc0 := 97) (pc' := 106) rfl (hb hby at_97) rfl ((if0 _ _).trans (feq (by decide : ¬ ((3 : Int32) = (0 : Int32)))).2) (by decide) (by decide) k) ?_
    show Goes p.tables e below (T29.setTop (mkF m 106 #[.val (.int pn), .val (.int pb0), .val (.int pb1), .val (.int pb2), .val (.int pb3), .val (.int (3 : Int32)), .val (.ref b26), .val (.long x30), .second, .val (.long x31), .second, .val (.long x32), .second, .val (.long x33), .second, .unset, .unset, .unset] [])) _
    refine Goes.by (fun _ k => XS.iload X29.here hx rfl (hb hby at_106) rfl k) ?_
    show Goes p.tables e below (T29.setTop (mkF m 108 #[.val (.int pn), .val (.int pb0), .val (.int pb1), .val (.int pb2), .val (.int pb3), .val (.int (3 : Int32)), .val (.ref b26), .val (.long x30), .second, .val (.long x31), .second, .val (.long x32), .second, .val (.long x33), .second, .unset, .unset, .unset] [(.int (3 : Int32))])) _
    refine Goes.by (fun _ k => XS.iconst X29.here hx rfl (hb hby at_108) k) ?_
    show Goes p.tables e below (T29.setTop (mkF m 109 #[.val (.int pn), .val (.int pb0), .val (.int pb1), .val (.int pb2), .val (.int pb3), .val (.int (3 : Int32)), .val (.ref b26), .val (.long x30), .second, .val (.long x31), .second, .val (.long x32), .second, .val (.long x33), .second, .unset, .unset, .unset] [(.int (1 : Int32)), (.int (3 : Int32))])) _
    refine Goes.by (fun _ k => XS.icmpYes X29.here hx rfl (pc0 := 109) (pc' := 119) rfl (hb hby at_109) rfl (feq (by decide : ¬ ((3 : Int32) = (1 : Int32)))).2 (by decide) (by decide) k) ?_
    show Goes p.tables e below (T29.setTop (mkF m 119 #[.val (.int pn), .val (.int pb0), .val (.int pb1), .val (.int pb2), .val (.int pb3), .val (.int (3 : Int32)), .val (.ref b26), .val (.long x30), .second, .val (.long x31), .second, .val (.long x32), .second, .val (.long x33), .second, .unset, .unset, .unset] [])) _
    refine Goes.by (fun _ k => XS.iload X29.here hx rfl (hb hby at_119) rfl k) ?_
    show Goes p.tables e below (T29.setTop (mkF m 121 #[.val (.int pn), .val (.int pb0), .val (.int pb1), .val (.int pb2), .val (.int pb3), .val (.int (3 : Int32)), .val (.ref b26), .val (.long x30), .second, .val (.long x31), .second, .val (.long x32), .second, .val (.long x33), .second, .unset, .unset, .unset] [(.int (3 : Int32))])) _
    refine Goes.by (fun _ k => XS.iconst X29.here hx rfl (hb hby at_121) k) ?_
    show Goes p.tables e below (T29.setTop (mkF m 122 #[.val (.int pn), .val (.int pb0), .val (.int pb1), .val (.int pb2), .val (.int pb3), .val (.int (3 : Int32)), .val (.ref b26), .val (.long x30), .second, .val (.long x31), .second, .val (.long x32), .second, .val (.long x33), .second, .unset, .unset, .unset] [(.int (2 : Int32)), (.int (3 : Int32))])) _
    refine Goes.by (fun _ k => XS.icmpYes X29.here hx rfl (pc0 := 122) (pc' := 139) rfl (hb hby at_122) rfl (feq (by decide : ¬ ((3 : Int32) = (2 : Int32)))).2 (by decide) (by decide) k) ?_
    show Goes p.tables e below (T29.setTop (mkF m 139 #[.val (.int pn), .val (.int pb0), .val (.int pb1), .val (.int pb2), .val (.int pb3), .val (.int (3 : Int32)), .val (.ref b26), .val (.long x30), .second, .val (.long x31), .second, .val (.long x32), .second, .val (.long x33), .second, .unset, .unset, .unset] [])) _
    refine Goes.by (fun _ k => XS.iload X29.here hx rfl (hb hby at_139) rfl k) ?_
    show Goes p.tables e below (T29.setTop (mkF m 141 #[.val (.int pn), .val (.int pb0), .val (.int pb1), .val (.int pb2), .val (.int pb3), .val (.int (3 : Int32)), .val (.ref b26), .val (.long x30), .second, .val (.long x31), .second, .val (.long x32), .second, .val (.long x33), .second, .unset, .unset, .unset] [(.int (3 : Int32))])) _
    refine Goes.by (fun _ k => XS.iconst X29.here hx rfl (hb hby at_141) k) ?_
    show Goes p.tables e below (T29.setTop (mkF m 142 #[.val (.int pn), .val (.int pb0), .val (.int pb1), .val (.int pb2), .val (.int pb3), .val (.int (3 : Int32)), .val (.ref b26), .val (.long x30), .second, .val (.long x31), .second, .val (.long x32), .second, .val (.long x33), .second, .unset, .unset, .unset] [(.int (3 : Int32)), (.int (3 : Int32))])) _
    refine Goes.by (fun _ k => XS.icmpNo X29.here hx rfl (hb hby at_142) rfl (teq (by decide : (3 : Int32) = (3 : Int32))).2 k) ?_
    show Goes p.tables e below (T29.setTop (mkF m 145 #[.val (.int pn), .val (.int pb0), .val (.int pb1), .val (.int pb2), .val (.int pb3), .val (.int (3 : Int32)), .val (.ref b26), .val (.long x30), .second, .val (.long x31), .second, .val (.long x32), .second, .val (.long x33), .second, .unset, .unset, .unset] [])) _
    refine Goes.by (fun _ k => XS.lload X29.here hx rfl (hb hby at_145) rfl k) ?_
    show Goes p.tables e below (T29.setTop (mkF m 147 #[.val (.int pn), .val (.int pb0), .val (.int pb1), .val (.int pb2), .val (.int pb3), .val (.int (3 : Int32)), .val (.ref b26), .val (.long x30), .second, .val (.long x31), .second, .val (.long x32), .second, .val (.long x33), .second, .unset, .unset, .unset] [(.long x30)])) _
    refine Goes.by (fun _ k => X29.ldc2J hx hown (mvT hZ (hw _ (List.mem_of_getElem? (i := 6) rfl))) (g := (mkF m 147 #[.val (.int pn), .val (.int pb0), .val (.int pb1), .val (.int pb2), .val (.int pb3), .val (.int (3 : Int32)), .val (.ref b26), .val (.long x30), .second, .val (.long x31), .second, .val (.long x32), .second, .val (.long x33), .second, .unset, .unset, .unset] [(.long x30)])) rfl (hb hby at_147) k) ?_
    show Goes p.tables e below (T29.setTop (mkF m 150 #[.val (.int pn), .val (.int pb0), .val (.int pb1), .val (.int pb2), .val (.int pb3), .val (.int (3 : Int32)), .val (.ref b26), .val (.long x30), .second, .val (.long x31), .second, .val (.long x32), .second, .val (.long x33), .second, .unset, .unset, .unset] [(.long (65536 : Int64)), (.long x30)])) _
    refine Goes.by (fun _ k => XS.lmul X29.here hx rfl (hb hby at_150) rfl k) ?_
    show Goes p.tables e below (T29.setTop (mkF m 151 #[.val (.int pn), .val (.int pb0), .val (.int pb1), .val (.int pb2), .val (.int pb3), .val (.int (3 : Int32)), .val (.ref b26), .val (.long x30), .second, .val (.long x31), .second, .val (.long x32), .second, .val (.long x33), .second, .unset, .unset, .unset] [(.long (x30 * (65536 : Int64)))])) _
    refine Goes.by (fun _ k => XS.lload X29.here hx rfl (hb hby at_151) rfl k) ?_
    show Goes p.tables e below (T29.setTop (mkF m 153 #[.val (.int pn), .val (.int pb0), .val (.int pb1), .val (.int pb2), .val (.int pb3), .val (.int (3 : Int32)), .val (.ref b26), .val (.long x30), .second, .val (.long x31), .second, .val (.long x32), .second, .val (.long x33), .second, .unset, .unset, .unset] [(.long x31), (.long (x30 * (65536 : Int64)))])) _
    refine Goes.by (fun _ k => X29.ldc2J hx hown (mvT hZ (hw _ (List.mem_of_getElem? (i := 7) rfl))) (g := (mkF m 153 #[.val (.int pn), .val (.int pb0), .val (.int pb1), .val (.int pb2), .val (.int pb3), .val (.int (3 : Int32)), .val (.ref b26), .val (.long x30), .second, .val (.long x31), .second, .val (.long x32), .second, .val (.long x33), .second, .unset, .unset, .unset] [(.long x31), (.long (x30 * (65536 : Int64)))])) rfl (hb hby at_153) k) ?_
    show Goes p.tables e below (T29.setTop (mkF m 156 #[.val (.int pn), .val (.int pb0), .val (.int pb1), .val (.int pb2), .val (.int pb3), .val (.int (3 : Int32)), .val (.ref b26), .val (.long x30), .second, .val (.long x31), .second, .val (.long x32), .second, .val (.long x33), .second, .unset, .unset, .unset] [(.long (256 : Int64)), (.long x31), (.long (x30 * (65536 : Int64)))])) _
    refine Goes.by (fun _ k => XS.lmul X29.here hx rfl (hb hby at_156) rfl k) ?_
    show Goes p.tables e below (T29.setTop (mkF m 157 #[.val (.int pn), .val (.int pb0), .val (.int pb1), .val (.int pb2), .val (.int pb3), .val (.int (3 : Int32)), .val (.ref b26), .val (.long x30), .second, .val (.long x31), .second, .val (.long x32), .second, .val (.long x33), .second, .unset, .unset, .unset] [(.long (x31 * (256 : Int64))), (.long (x30 * (65536 : Int64)))])) _
    refine Goes.by (fun _ k => XS.ladd X29.here hx rfl (hb hby at_157) rfl k) ?_
    show Goes p.tables e below (T29.setTop (mkF m 158 #[.val (.int pn), .val (.int pb0), .val (.int pb1), .val (.int pb2), .val (.int pb3), .val (.int (3 : Int32)), .val (.ref b26), .val (.long x30), .second, .val (.long x31), .second, .val (.long x32), .second, .val (.long x33), .second, .unset, .unset, .unset] [(.long ((x30 * (65536 : Int64)) + (x31 * (256 : Int64))))])) _
    refine Goes.by (fun _ k => XS.lload X29.here hx rfl (hb hby at_158) rfl k) ?_
    show Goes p.tables e below (T29.setTop (mkF m 160 #[.val (.int pn), .val (.int pb0), .val (.int pb1), .val (.int pb2), .val (.int pb3), .val (.int (3 : Int32)), .val (.ref b26), .val (.long x30), .second, .val (.long x31), .second, .val (.long x32), .second, .val (.long x33), .second, .unset, .unset, .unset] [(.long x32), (.long ((x30 * (65536 : Int64)) + (x31 * (256 : Int64))))])) _
    refine Goes.by (fun _ k => XS.ladd X29.here hx rfl (hb hby at_160) rfl k) ?_
    show Goes p.tables e below (T29.setTop (mkF m 161 #[.val (.int pn), .val (.int pb0), .val (.int pb1), .val (.int pb2), .val (.int pb3), .val (.int (3 : Int32)), .val (.ref b26), .val (.long x30), .second, .val (.long x31), .second, .val (.long x32), .second, .val (.long x33), .second, .unset, .unset, .unset] [(.long (((x30 * (65536 : Int64)) + (x31 * (256 : Int64))) + x32))])) _
    obtain ⟨x34, hx34⟩ : ∃ z : Int64, z = (((x30 * (65536 : Int64)) + (x31 * (256 : Int64))) + x32) := ⟨_, rfl⟩
    refine Goes.by (fun _ k => XS.lstore X29.here hx rfl (hb hby at_161) rfl (l' := #[.val (.int pn), .val (.int pb0), .val (.int pb1), .val (.int pb2), .val (.int pb3), .val (.int (3 : Int32)), .val (.ref b26), .val (.long x30), .second, .val (.long x31), .second, .val (.long x32), .second, .val (.long x33), .second, .val (.long x34), .second, .unset]) (by rw [hx34]; rfl) k) ?_
    show Goes p.tables e below (T29.setTop (mkF m 163 #[.val (.int pn), .val (.int pb0), .val (.int pb1), .val (.int pb2), .val (.int pb3), .val (.int (3 : Int32)), .val (.ref b26), .val (.long x30), .second, .val (.long x31), .second, .val (.long x32), .second, .val (.long x33), .second, .val (.long x34), .second, .unset] [])) _
    refine Goes.by (fun _ k => XS.goto X29.here hx rfl (pc0 := 163) (pc' := 191) rfl (hb hby at_163) (by decide) (by decide) k) ?_
    show Goes p.tables e below (T29.setTop (mkF m 191 #[.val (.int pn), .val (.int pb0), .val (.int pb1), .val (.int pb2), .val (.int pb3), .val (.int (3 : Int32)), .val (.ref b26), .val (.long x30), .second, .val (.long x31), .second, .val (.long x32), .second, .val (.long x33), .second, .val (.long x34), .second, .unset] [])) _
    refine Goes.by (fun _ k => XS.aload X29.here hx rfl (hb hby at_191) rfl rfl k) ?_
    show Goes p.tables e below (T29.setTop (mkF m 193 #[.val (.int pn), .val (.int pb0), .val (.int pb1), .val (.int pb2), .val (.int pb3), .val (.int (3 : Int32)), .val (.ref b26), .val (.long x30), .second, .val (.long x31), .second, .val (.long x32), .second, .val (.long x33), .second, .val (.long x34), .second, .unset] [(.ref b26)])) _
    obtain ⟨_, _, ⟨T35, L35, k35, n35⟩, -, X35, ⟨Lc35, hQ35, l35, y35, z35⟩, st35⟩ := Jvm.LawKit.callS X29 hx (y := (⟨"castkey/card/ModeObjects", "number", "([B)I"⟩ : MethodName)) hown (mvT hZ (hw _ (List.mem_of_getElem? (i := 2) rfl))) (mvT hZ (hw _ (List.mem_of_getElem? (i := 3) rfl))) (mvT hZ (hw _ (List.mem_of_getElem? (i := 4) rfl))) (mvT hZ (hw _ (List.mem_of_getElem? (i := 5) rfl))) (by decide) (backOf (W := 0) (rm1n3 l Z a0 hw [] b26 (up (up (up (fun _ => (0 : Int32)) 0 ((pb0.toInt8.toInt32).toInt8.toInt32)) 1 ((pb1.toInt8.toInt32).toInt8.toInt32)) 2 ((pb2.toInt8.toInt32).toInt8.toInt32)) h29 n0 Zs29 A_b26) hZ (hw _ (List.mem_of_getElem? (i := 5) rfl)) (hw _ (List.mem_of_getElem? (i := 4) rfl)) (by decide) (by decide)) (g := (mkF m 193 #[.val (.int pn), .val (.int pb0), .val (.int pb1), .val (.int pb2), .val (.int pb3), .val (.int (3 : Int32)), .val (.ref b26), .val (.long x30), .second, .val (.long x31), .second, .val (.long x32), .second, .val (.long x33), .second, .val (.long x34), .second, .unset] [(.ref b26)])) rfl (by rw [hml]; rfl) (argsL := [(.ref b26)]) (rest := []) (lenOf pd_0 rfl) rfl (by show 2 * 0 + _ ≤ _; exact Nat.le_of_eq rfl) (hb hby at_193) (fun _ _ => ⟨rfl, e29, (by decide : 1 + 0 ≤ _), (by decide : 3 + 0 ≤ _)⟩)
    dsimp only [Pt.U, Pt.locs, Pt.cells, Pt.slots] at X35 l35 y35 z35 st35 hQ35
    subst l35 y35 z35
    obtain ⟨rfl, N35q, e35⟩ := hQ35
    have N35 := Fr.app N29 N35q
    refine Goes.by st35 ?_
    show Goes p.tables e below (T35.setTop (mkF m 196 #[.val (.int pn), .val (.int pb0), .val (.int pb1), .val (.int pb2), .val (.int pb3), .val (.int (3 : Int32)), .val (.ref b26), .val (.long x30), .second, .val (.long x31), .second, .val (.long x32), .second, .val (.long x33), .second, .val (.long x34), .second, .unset] [(.int (((((((0 : Int32) <<< ((8 : Int32) &&& 31)) ||| (((pb0.toInt8.toInt32).toInt8.toInt32) &&& (255 : Int32))) <<< ((8 : Int32) &&& 31)) ||| (((pb1.toInt8.toInt32).toInt8.toInt32) &&& (255 : Int32))) <<< ((8 : Int32) &&& 31)) ||| (((pb2.toInt8.toInt32).toInt8.toInt32) &&& (255 : Int32))))])) _
    obtain ⟨x36, hx36⟩ : ∃ z : Int32, z = (((((((0 : Int32) <<< ((8 : Int32) &&& 31)) ||| (((pb0.toInt8.toInt32).toInt8.toInt32) &&& (255 : Int32))) <<< ((8 : Int32) &&& 31)) ||| (((pb1.toInt8.toInt32).toInt8.toInt32) &&& (255 : Int32))) <<< ((8 : Int32) &&& 31)) ||| (((pb2.toInt8.toInt32).toInt8.toInt32) &&& (255 : Int32))) := ⟨_, rfl⟩
    refine Goes.by (fun _ k => XS.istore X35.here hx rfl (hb hby at_196) rfl (l' := #[.val (.int pn), .val (.int pb0), .val (.int pb1), .val (.int pb2), .val (.int pb3), .val (.int (3 : Int32)), .val (.ref b26), .val (.long x30), .second, .val (.long x31), .second, .val (.long x32), .second, .val (.long x33), .second, .val (.long x34), .second, .val (.int x36)]) (by rw [hx36]; rfl) k) ?_
    show Goes p.tables e below (T35.setTop (mkF m 198 #[.val (.int pn), .val (.int pb0), .val (.int pb1), .val (.int pb2), .val (.int pb3), .val (.int (3 : Int32)), .val (.ref b26), .val (.long x30), .second, .val (.long x31), .second, .val (.long x32), .second, .val (.long x33), .second, .val (.long x34), .second, .val (.int x36)] [])) _
    refine Goes.by (fun _ k => XS.iload X35.here hx rfl (hb hby at_198) rfl k) ?_
    show Goes p.tables e below (T35.setTop (mkF m 200 #[.val (.int pn), .val (.int pb0), .val (.int pb1), .val (.int pb2), .val (.int pb3), .val (.int (3 : Int32)), .val (.ref b26), .val (.long x30), .second, .val (.long x31), .second, .val (.long x32), .second, .val (.long x33), .second, .val (.long x34), .second, .val (.int x36)] [(.int x36)])) _
    refine Goes.by (fun _ k => XS.lload X35.here hx rfl (hb hby at_200) rfl k) ?_
    show Goes p.tables e below (T35.setTop (mkF m 202 #[.val (.int pn), .val (.int pb0), .val (.int pb1), .val (.int pb2), .val (.int pb3), .val (.int (3 : Int32)), .val (.ref b26), .val (.long x30), .second, .val (.long x31), .second, .val (.long x32), .second, .val (.long x33), .second, .val (.long x34), .second, .val (.int x36)] [(.long x34), (.int x36)])) _
    refine Goes.by (fun _ k => XS.l2i X35.here hx rfl (hb hby at_202) rfl k) ?_
    show Goes p.tables e below (T35.setTop (mkF m 203 #[.val (.int pn), .val (.int pb0), .val (.int pb1), .val (.int pb2), .val (.int pb3), .val (.int (3 : Int32)), .val (.ref b26), .val (.long x30), .second, .val (.long x31), .second, .val (.long x32), .second, .val (.long x33), .second, .val (.long x34), .second, .val (.int x36)] [(.int (x34.toInt32)), (.int x36)])) _
    refine Goes.by (fun _ k => XS.icmpNo X35.here hx rfl (hb hby at_203) rfl (teq (by rw [hx36, hx34, hx30, hx31, hx32]; exact own_c3 pb0 pb1 pb2 pb3 : x36 = (x34.toInt32))).2 k) ?_
    show Goes p.tables e below (T35.setTop (mkF m 206 #[.val (.int pn), .val (.int pb0), .val (.int pb1), .val (.int pb2), .val (.int pb3), .val (.int (3 : Int32)), .val (.ref b26), .val (.long x30), .second, .val (.long x31), .second, .val (.long x32), .second, .val (.long x33), .second, .val (.long x34), .second, .val (.int x36)] [])) _
    refine Goes.by (fun _ k => XS.iconst X35.here hx rfl (hb hby at_206) k) ?_
    show Goes p.tables e below (T35.setTop (mkF m 207 #[.val (.int pn), .val (.int pb0), .val (.int pb1), .val (.int pb2), .val (.int pb3), .val (.int (3 : Int32)), .val (.ref b26), .val (.long x30), .second, .val (.long x31), .second, .val (.long x32), .second, .val (.long x33), .second, .val (.long x34), .second, .val (.int x36)] [(.int (1 : Int32))])) _
    refine Goes.by (fun _ k => XS.goto X35.here hx rfl (pc0 := 207) (pc' := 211) rfl (hb hby at_207) (by decide) (by decide) k) ?_
    show Goes p.tables e below (T35.setTop (mkF m 211 #[.val (.int pn), .val (.int pb0), .val (.int pb1), .val (.int pb2), .val (.int pb3), .val (.int (3 : Int32)), .val (.ref b26), .val (.long x30), .second, .val (.long x31), .second, .val (.long x32), .second, .val (.long x33), .second, .val (.long x34), .second, .val (.int x36)] [(.int (1 : Int32))])) _
    obtain ⟨fs, hr, hrun, hended, hW, hsame⟩ := X35.leave (v := some (.int (1 : Int32))) (fun h => by rw [Bd.returns] at h; cases h)
    refine ⟨_, _, retN X35 hx (t := .boolean) Bd.returns (by simp) (hb hby at_211) hr, hrun, hended, _, _, rfl, ?_, ⟨_, rfl⟩, hW, hsame.mono (by decide) (by decide)⟩
    show Q0 Z pn pb0 pb1 pb2 pb3 h0 n0 _ T35.heap _
    rw [e35]
    exact ⟨rfl, N35⟩
  · subst qc
    show Goes p.tables e below (s₁.setTop (mkF m 8 #[.val (.int pn), .val (.int pb0), .val (.int pb1), .val (.int pb2), .val (.int pb3), .val (.int (4 : Int32)), .unset, .unset, .unset, .unset, .unset, .unset, .unset, .unset, .unset, .unset, .unset, .unset] [])) _
    refine Goes.by (fun _ k => XS.iload X0.here hx rfl (hb hby at_8) rfl k) ?_
    show Goes p.tables e below (s₁.setTop (mkF m 10 #[.val (.int pn), .val (.int pb0), .val (.int pb1), .val (.int pb2), .val (.int pb3), .val (.int (4 : Int32)), .unset, .unset, .unset, .unset, .unset, .unset, .unset, .unset, .unset, .unset, .unset, .unset] [(.int (4 : Int32))])) _
    obtain ⟨T37, h37, X37, e37, E37, A37, st37⟩ := nwA (n := 4) (cap := 4) (fr := (mkF m 10 #[.val (.int pn), .val (.int pb0), .val (.int pb1), .val (.int pb2), .val (.int pb3), .val (.int (4 : Int32)), .unset, .unset, .unset, .unset, .unset, .unset, .unset, .unset, .unset, .unset, .unset, .unset] [(.int (4 : Int32))])) X0 hx hZ (hw _ (List.mem_of_getElem? (i := 1) rfl)) e0 (by decide) (by decide) (by decide) (by decide) (by decide) rfl rfl (hb hby at_10)
    obtain ⟨b37, g37⟩ : ∃ z, z = h0.size := ⟨_, rfl⟩
    rw [← g37] at A37 st37
    have g_b37 : n0 ≤ b37 := Nat.le_trans Z0 (Nat.le_of_eq g37.symm)
    have sz_b37 : h0.size ≤ b37 := Nat.le_trans (Keep.refl h0 []).1 (Nat.le_of_eq g37.symm)
    have Zs37 : n0 ≤ h37.size := Nat.le_trans Z0 E37.1
    have K37 : Keep h0 h37 [] := (Keep.refl h0 []).ext E37
    refine Goes.by st37 ?_
    have A_b37 : AI Z h37 b37 .byte 4 (fun _ => (0 : Int32)) := A37
    show Goes p.tables e below (T37.setTop (mkF m 12 #[.val (.int pn), .val (.int pb0), .val (.int pb1), .val (.int pb2), .val (.int pb3), .val (.int (4 : Int32)), .unset, .unset, .unset, .unset, .unset, .unset, .unset, .unset, .unset, .unset, .unset, .unset] [(.ref b37)])) _
    refine Goes.by (fun _ k => XS.astore X37.here hx rfl (hb hby at_12) rfl rfl (l' := #[.val (.int pn), .val (.int pb0), .val (.int pb1), .val (.int pb2), .val (.int pb3), .val (.int (4 : Int32)), .val (.ref b37), .unset, .unset, .unset, .unset, .unset, .unset, .unset, .unset, .unset, .unset, .unset]) rfl k) ?_
    show Goes p.tables e below (T37.setTop (mkF m 14 #[.val (.int pn), .val (.int pb0), .val (.int pb1), .val (.int pb2), .val (.int pb3), .val (.int (4 : Int32)), .val (.ref b37), .unset, .unset, .unset, .unset, .unset, .unset, .unset, .unset, .unset, .unset, .unset] [])) _
    refine Goes.by (fun _ k => XS.iload X37.here hx rfl (hb hby at_14) rfl k) ?_
    show Goes p.tables e below (T37.setTop (mkF m 16 #[.val (.int pn), .val (.int pb0), .val (.int pb1), .val (.int pb2), .val (.int pb3), .val (.int (4 : Int32)), .val (.ref b37), .unset, .unset, .unset, .unset, .unset, .unset, .unset, .unset, .unset, .unset, .unset] [(.int (4 : Int32))])) _
    refine Goes.by (fun _ k => XS.ifNo X37.here hx rfl (hb hby at_16) rfl ((if0 _ _).trans (tlt (by decide : (0 : Int32) < (4 : Int32))).2.2.2) k) ?_
    show Goes p.tables e below (T37.setTop (mkF m 19 #[.val (.int pn), .val (.int pb0), .val (.int pb1), .val (.int pb2), .val (.int pb3), .val (.int (4 : Int32)), .val (.ref b37), .unset, .unset, .unset, .unset, .unset, .unset, .unset, .unset, .unset, .unset, .unset] [])) _
    refine Goes.by (fun _ k => XS.aload X37.here hx rfl (hb hby at_19) rfl rfl k) ?_
    show Goes p.tables e below (T37.setTop (mkF m 21 #[.val (.int pn), .val (.int pb0), .val (.int pb1), .val (.int pb2), .val (.int pb3), .val (.int (4 : Int32)), .val (.ref b37), .unset, .unset, .unset, .unset, .unset, .unset, .unset, .unset, .unset, .unset, .unset] [(.ref b37)])) _
    refine Goes.by (fun _ k => XS.iconst X37.here hx rfl (hb hby at_21) k) ?_
    show Goes p.tables e below (T37.setTop (mkF m 22 #[.val (.int pn), .val (.int pb0), .val (.int pb1), .val (.int pb2), .val (.int pb3), .val (.int (4 : Int32)), .val (.ref b37), .unset, .unset, .unset, .unset, .unset, .unset, .unset, .unset, .unset, .unset, .unset] [(.int (0 : Int32)), (.ref b37)])) _
    refine Goes.by (fun _ k => XS.iloadN X37.here hx rfl (hb hby at_22) rfl k) ?_
    show Goes p.tables e below (T37.setTop (mkF m 23 #[.val (.int pn), .val (.int pb0), .val (.int pb1), .val (.int pb2), .val (.int pb3), .val (.int (4 : Int32)), .val (.ref b37), .unset, .unset, .unset, .unset, .unset, .unset, .unset, .unset, .unset, .unset, .unset] [(.int pb0), (.int (0 : Int32)), (.ref b37)])) _
    refine Goes.by (fun _ k => XS.i2b X37.here hx rfl (hb hby at_23) rfl k) ?_
    show Goes p.tables e below (T37.setTop (mkF m 24 #[.val (.int pn), .val (.int pb0), .val (.int pb1), .val (.int pb2), .val (.int pb3), .val (.int (4 : Int32)), .val (.ref b37), .unset, .unset, .unset, .unset, .unset, .unset, .unset, .unset, .unset, .unset, .unset] [(.int (pb0.toInt8.toInt32)), (.int (0 : Int32)), (.ref b37)])) _
    obtain ⟨T38, h38, X38, e38, W38, A38, st38⟩ := stAB (fr := (mkF m 24 #[.val (.int pn), .val (.int pb0), .val (.int pb1), .val (.int pb2), .val (.int pb3), .val (.int (4 : Int32)), .val (.ref b37), .unset, .unset, .unset, .unset, .unset, .unset, .unset, .unset, .unset, .unset, .unset] [(.int (pb0.toInt8.toInt32)), (.int (0 : Int32)), (.ref b37)])) X37 hx hZ e37 A_b37 (i := 0) (by decide) (by decide) rfl rfl (hb hby at_24)
    refine Goes.by st38 ?_
    have A_b37 : AI Z h38 b37 .byte 4 (up (fun _ => (0 : Int32)) 0 ((pb0.toInt8.toInt32).toInt8.toInt32)) := A38
    have N38 := Fr.snoc X38 N0 g_b37
    have Zs38 : n0 ≤ h38.size := Nat.le_trans Zs37 (Keep.of_wr W38).1
    have K38 : Keep h0 h38 [] := K37.wr W38 (Or.inr sz_b37)
    show Goes p.tables e below (T38.setTop (mkF m 25 #[.val (.int pn), .val (.int pb0), .val (.int pb1), .val (.int pb2), .val (.int pb3), .val (.int (4 : Int32)), .val (.ref b37), .unset, .unset, .unset, .unset, .unset, .unset, .unset, .unset, .unset, .unset, .unset] [])) _
    refine Goes.by (fun _ k => XS.iload X38.here hx rfl (hb hby at_25) rfl k) ?_
    show Goes p.tables e below (T38.setTop (mkF m 27 #[.val (.int pn), .val (.int pb0), .val (.int pb1), .val (.int pb2), .val (.int pb3), .val (.int (4 : Int32)), .val (.ref b37), .unset, .unset, .unset, .unset, .unset, .unset, .unset, .unset, .unset, .unset, .unset] [(.int (4 : Int32))])) _
    refine Goes.by (fun _ k => XS.iconst X38.here hx rfl (hb hby at_27) k) ?_
    show Goes p.tables e below (T38.setTop (mkF m 28 #[.val (.int pn), .val (.int pb0), .val (.int pb1), .val (.int pb2), .val (.int pb3), .val (.int (4 : Int32)), .val (.ref b37), .unset, .unset, .unset, .unset, .unset, .unset, .unset, .unset, .unset, .unset, .unset] [(.int (1 : Int32)), (.int (4 : Int32))])) _
    refine Goes.by (fun _ k => XS.icmpNo X38.here hx rfl (hb hby at_28) rfl (tlt (by decide : (1 : Int32) < (4 : Int32))).2.2.2 k) ?_
    show Goes p.tables e below (T38.setTop (mkF m 31 #[.val (.int pn), .val (.int pb0), .val (.int pb1), .val (.int pb2), .val (.int pb3), .val (.int (4 : Int32)), .val (.ref b37), .unset, .unset, .unset, .unset, .unset, .unset, .unset, .unset, .unset, .unset, .unset] [])) _
    refine Goes.by (fun _ k => XS.aload X38.here hx rfl (hb hby at_31) rfl rfl k) ?_
    show Goes p.tables e below (T38.setTop (mkF m 33 #[.val (.int pn), .val (.int pb0), .val (.int pb1), .val (.int pb2), .val (.int pb3), .val (.int (4 : Int32)), .val (.ref b37), .unset, .unset, .unset, .unset, .unset, .unset, .unset, .unset, .unset, .unset, .unset] [(.ref b37)])) _
    refine Goes.by (fun _ k => XS.iconst X38.here hx rfl (hb hby at_33) k) ?_
    show Goes p.tables e below (T38.setTop (mkF m 34 #[.val (.int pn), .val (.int pb0), .val (.int pb1), .val (.int pb2), .val (.int pb3), .val (.int (4 : Int32)), .val (.ref b37), .unset, .unset, .unset, .unset, .unset, .unset, .unset, .unset, .unset, .unset, .unset] [(.int (1 : Int32)), (.ref b37)])) _
    refine Goes.by (fun _ k => XS.iloadN X38.here hx rfl (hb hby at_34) rfl k) ?_
    show Goes p.tables e below (T38.setTop (mkF m 35 #[.val (.int pn), .val (.int pb0), .val (.int pb1), .val (.int pb2), .val (.int pb3), .val (.int (4 : Int32)), .val (.ref b37), .unset, .unset, .unset, .unset, .unset, .unset, .unset, .unset, .unset, .unset, .unset] [(.int pb1), (.int (1 : Int32)), (.ref b37)])) _
    refine Goes.by (fun _ k => XS.i2b X38.here hx rfl (hb hby at_35) rfl k) ?_
    show Goes p.tables e below (T38.setTop (mkF m 36 #[.val (.int pn), .val (.int pb0), .val (.int pb1), .val (.int pb2), .val (.int pb3), .val (.int (4 : Int32)), .val (.ref b37), .unset, .unset, .unset, .unset, .unset, .unset, .unset, .unset, .unset, .unset, .unset] [(.int (pb1.toInt8.toInt32)), (.int (1 : Int32)), (.ref b37)])) _
    obtain ⟨T39, h39, X39, e39, W39, A39, st39⟩ := stAB (fr := (mkF m 36 #[.val (.int pn), .val (.int pb0), .val (.int pb1), .val (.int pb2), .val (.int pb3), .val (.int (4 : Int32)), .val (.ref b37), .unset, .unset, .unset, .unset, .unset, .unset, .unset, .unset, .unset, .unset, .unset] [(.int (pb1.toInt8.toInt32)), (.int (1 : Int32)), (.ref b37)])) X38 hx hZ e38 A_b37 (i := 1) (by decide) (by decide) rfl rfl (hb hby at_36)
    refine Goes.by st39 ?_
    have A_b37 : AI Z h39 b37 .byte 4 (up (up (fun _ => (0 : Int32)) 0 ((pb0.toInt8.toInt32).toInt8.toInt32)) 1 ((pb1.toInt8.toInt32).toInt8.toInt32)) := A39
    have N39 := Fr.snoc X39 N38 g_b37
    have Zs39 : n0 ≤ h39.size := Nat.le_trans Zs38 (Keep.of_wr W39).1
    have K39 : Keep h0 h39 [] := K38.wr W39 (Or.inr sz_b37)
    show Goes p.tables e below (T39.setTop (mkF m 37 #[.val (.int pn), .val (.int pb0), .val (.int pb1), .val (.int pb2), .val (.int pb3), .val (.int (4 : Int32)), .val (.ref b37), .unset, .unset, .unset, .unset, .unset, .unset, .unset, .unset, .unset, .unset, .unset] [])) _
    refine Goes.by (fun _ k => XS.iload X39.here hx rfl (hb hby at_37) rfl k) ?_
    show Goes p.tables e below (T39.setTop (mkF m 39 #[.val (.int pn), .val (.int pb0), .val (.int pb1), .val (.int pb2), .val (.int pb3), .val (.int (4 : Int32)), .val (.ref b37), .unset, .unset, .unset, .unset, .unset, .unset, .unset, .unset, .unset, .unset, .unset] [(.int (4 : Int32))])) _
    refine Goes.by (fun _ k => XS.iconst X39.here hx rfl (hb hby at_39) k) ?_
    show Goes p.tables e below (T39.setTop (mkF m 40 #[.val (.int pn), .val (.int pb0), .val (.int pb1), .val (.int pb2), .val (.int pb3), .val (.int (4 : Int32)), .val (.ref b37), .unset, .unset, .unset, .unset, .unset, .unset, .unset, .unset, .unset, .unset, .unset] [(.int (2 : Int32)), (.int (4 : Int32))])) _
    refine Goes.by (fun _ k => XS.icmpNo X39.here hx rfl (hb hby at_40) rfl (tlt (by decide : (2 : Int32) < (4 : Int32))).2.2.2 k) ?_
    show Goes p.tables e below (T39.setTop (mkF m 43 #[.val (.int pn), .val (.int pb0), .val (.int pb1), .val (.int pb2), .val (.int pb3), .val (.int (4 : Int32)), .val (.ref b37), .unset, .unset, .unset, .unset, .unset, .unset, .unset, .unset, .unset, .unset, .unset] [])) _
    refine Goes.by (fun _ k => XS.aload X39.here hx rfl (hb hby at_43) rfl rfl k) ?_
    show Goes p.tables e below (T39.setTop (mkF m 45 #[.val (.int pn), .val (.int pb0), .val (.int pb1), .val (.int pb2), .val (.int pb3), .val (.int (4 : Int32)), .val (.ref b37), .unset, .unset, .unset, .unset, .unset, .unset, .unset, .unset, .unset, .unset, .unset] [(.ref b37)])) _
    refine Goes.by (fun _ k => XS.iconst X39.here hx rfl (hb hby at_45) k) ?_
    show Goes p.tables e below (T39.setTop (mkF m 46 #[.val (.int pn), .val (.int pb0), .val (.int pb1), .val (.int pb2), .val (.int pb3), .val (.int (4 : Int32)), .val (.ref b37), .unset, .unset, .unset, .unset, .unset, .unset, .unset, .unset, .unset, .unset, .unset] [(.int (2 : Int32)), (.ref b37)])) _
    refine Goes.by (fun _ k => XS.iloadN X39.here hx rfl (hb hby at_46) rfl k) ?_
    show Goes p.tables e below (T39.setTop (mkF m 47 #[.val (.int pn), .val (.int pb0), .val (.int pb1), .val (.int pb2), .val (.int pb3), .val (.int (4 : Int32)), .val (.ref b37), .unset, .unset, .unset, .unset, .unset, .unset, .unset, .unset, .unset, .unset, .unset] [(.int pb2), (.int (2 : Int32)), (.ref b37)])) _
    refine Goes.by (fun _ k => XS.i2b X39.here hx rfl (hb hby at_47) rfl k) ?_
    show Goes p.tables e below (T39.setTop (mkF m 48 #[.val (.int pn), .val (.int pb0), .val (.int pb1), .val (.int pb2), .val (.int pb3), .val (.int (4 : Int32)), .val (.ref b37), .unset, .unset, .unset, .unset, .unset, .unset, .unset, .unset, .unset, .unset, .unset] [(.int (pb2.toInt8.toInt32)), (.int (2 : Int32)), (.ref b37)])) _
    obtain ⟨T40, h40, X40, e40, W40, A40, st40⟩ := stAB (fr := (mkF m 48 #[.val (.int pn), .val (.int pb0), .val (.int pb1), .val (.int pb2), .val (.int pb3), .val (.int (4 : Int32)), .val (.ref b37), .unset, .unset, .unset, .unset, .unset, .unset, .unset, .unset, .unset, .unset, .unset] [(.int (pb2.toInt8.toInt32)), (.int (2 : Int32)), (.ref b37)])) X39 hx hZ e39 A_b37 (i := 2) (by decide) (by decide) rfl rfl (hb hby at_48)
    refine Goes.by st40 ?_
    have A_b37 : AI Z h40 b37 .byte 4 (up (up (up (fun _ => (0 : Int32)) 0 ((pb0.toInt8.toInt32).toInt8.toInt32)) 1 ((pb1.toInt8.toInt32).toInt8.toInt32)) 2 ((pb2.toInt8.toInt32).toInt8.toInt32)) := A40
    have N40 := Fr.snoc X40 N39 g_b37
    have Zs40 : n0 ≤ h40.size := Nat.le_trans Zs39 (Keep.of_wr W40).1
    have K40 : Keep h0 h40 [] := K39.wr W40 (Or.inr sz_b37)
    show Goes p.tables e below (T40.setTop (mkF m 49 #[.val (.int pn), .val (.int pb0), .val (.int pb1), .val (.int pb2), .val (.int pb3), .val (.int (4 : Int32)), .val (.ref b37), .unset, .unset, .unset, .unset, .unset, .unset, .unset, .unset, .unset, .unset, .unset] [])) _
    refine Goes.by (fun _ k => XS.iload X40.here hx rfl (hb hby at_49) rfl k) ?_
    show Goes p.tables e below (T40.setTop (mkF m 51 #[.val (.int pn), .val (.int pb0), .val (.int pb1), .val (.int pb2), .val (.int pb3), .val (.int (4 : Int32)), .val (.ref b37), .unset, .unset, .unset, .unset, .unset, .unset, .unset, .unset, .unset, .unset, .unset] [(.int (4 : Int32))])) _
    refine Goes.by (fun _ k => XS.iconst X40.here hx rfl (hb hby at_51) k) ?_
    show Goes p.tables e below (T40.setTop (mkF m 52 #[.val (.int pn), .val (.int pb0), .val (.int pb1), .val (.int pb2), .val (.int pb3), .val (.int (4 : Int32)), .val (.ref b37), .unset, .unset, .unset, .unset, .unset, .unset, .unset, .unset, .unset, .unset, .unset] [(.int (3 : Int32)), (.int (4 : Int32))])) _
    refine Goes.by (fun _ k => XS.icmpNo X40.here hx rfl (hb hby at_52) rfl (tlt (by decide : (3 : Int32) < (4 : Int32))).2.2.2 k) ?_
    show Goes p.tables e below (T40.setTop (mkF m 55 #[.val (.int pn), .val (.int pb0), .val (.int pb1), .val (.int pb2), .val (.int pb3), .val (.int (4 : Int32)), .val (.ref b37), .unset, .unset, .unset, .unset, .unset, .unset, .unset, .unset, .unset, .unset, .unset] [])) _
    refine Goes.by (fun _ k => XS.aload X40.here hx rfl (hb hby at_55) rfl rfl k) ?_
    show Goes p.tables e below (T40.setTop (mkF m 57 #[.val (.int pn), .val (.int pb0), .val (.int pb1), .val (.int pb2), .val (.int pb3), .val (.int (4 : Int32)), .val (.ref b37), .unset, .unset, .unset, .unset, .unset, .unset, .unset, .unset, .unset, .unset, .unset] [(.ref b37)])) _
    refine Goes.by (fun _ k => XS.iconst X40.here hx rfl (hb hby at_57) k) ?_
    show Goes p.tables e below (T40.setTop (mkF m 58 #[.val (.int pn), .val (.int pb0), .val (.int pb1), .val (.int pb2), .val (.int pb3), .val (.int (4 : Int32)), .val (.ref b37), .unset, .unset, .unset, .unset, .unset, .unset, .unset, .unset, .unset, .unset, .unset] [(.int (3 : Int32)), (.ref b37)])) _
    refine Goes.by (fun _ k => XS.iload X40.here hx rfl (hb hby at_58) rfl k) ?_
    show Goes p.tables e below (T40.setTop (mkF m 60 #[.val (.int pn), .val (.int pb0), .val (.int pb1), .val (.int pb2), .val (.int pb3), .val (.int (4 : Int32)), .val (.ref b37), .unset, .unset, .unset, .unset, .unset, .unset, .unset, .unset, .unset, .unset, .unset] [(.int pb3), (.int (3 : Int32)), (.ref b37)])) _
    refine Goes.by (fun _ k => XS.i2b X40.here hx rfl (hb hby at_60) rfl k) ?_
    show Goes p.tables e below (T40.setTop (mkF m 61 #[.val (.int pn), .val (.int pb0), .val (.int pb1), .val (.int pb2), .val (.int pb3), .val (.int (4 : Int32)), .val (.ref b37), .unset, .unset, .unset, .unset, .unset, .unset, .unset, .unset, .unset, .unset, .unset] [(.int (pb3.toInt8.toInt32)), (.int (3 : Int32)), (.ref b37)])) _
    obtain ⟨T41, h41, X41, e41, W41, A41, st41⟩ := stAB (fr := (mkF m 61 #[.val (.int pn), .val (.int pb0), .val (.int pb1), .val (.int pb2), .val (.int pb3), .val (.int (4 : Int32)), .val (.ref b37), .unset, .unset, .unset, .unset, .unset, .unset, .unset, .unset, .unset, .unset, .unset] [(.int (pb3.toInt8.toInt32)), (.int (3 : Int32)), (.ref b37)])) X40 hx hZ e40 A_b37 (i := 3) (by decide) (by decide) rfl rfl (hb hby at_61)
    refine Goes.by st41 ?_
    have A_b37 : AI Z h41 b37 .byte 4 (up (up (up (up (fun _ => (0 : Int32)) 0 ((pb0.toInt8.toInt32).toInt8.toInt32)) 1 ((pb1.toInt8.toInt32).toInt8.toInt32)) 2 ((pb2.toInt8.toInt32).toInt8.toInt32)) 3 ((pb3.toInt8.toInt32).toInt8.toInt32)) := A41
    have N41 := Fr.snoc X41 N40 g_b37
    have Zs41 : n0 ≤ h41.size := Nat.le_trans Zs40 (Keep.of_wr W41).1
    have K41 : Keep h0 h41 [] := K40.wr W41 (Or.inr sz_b37)
    show Goes p.tables e below (T41.setTop (mkF m 62 #[.val (.int pn), .val (.int pb0), .val (.int pb1), .val (.int pb2), .val (.int pb3), .val (.int (4 : Int32)), .val (.ref b37), .unset, .unset, .unset, .unset, .unset, .unset, .unset, .unset, .unset, .unset, .unset] [])) _
    refine Goes.by (fun _ k => XS.iloadN X41.here hx rfl (hb hby at_62) rfl k) ?_
    show Goes p.tables e below (T41.setTop (mkF m 63 #[.val (.int pn), .val (.int pb0), .val (.int pb1), .val (.int pb2), .val (.int pb3), .val (.int (4 : Int32)), .val (.ref b37), .unset, .unset, .unset, .unset, .unset, .unset, .unset, .unset, .unset, .unset, .unset] [(.int pb0)])) _
    refine Goes.by (fun _ k => XS.sipush X41.here hx rfl (hb hby at_63) k) ?_
    show Goes p.tables e below (T41.setTop (mkF m 66 #[.val (.int pn), .val (.int pb0), .val (.int pb1), .val (.int pb2), .val (.int pb3), .val (.int (4 : Int32)), .val (.ref b37), .unset, .unset, .unset, .unset, .unset, .unset, .unset, .unset, .unset, .unset, .unset] [(.int (255 : Int32)), (.int pb0)])) _
    refine Goes.by (fun _ k => XS.iand X41.here hx rfl (hb hby at_66) rfl k) ?_
    show Goes p.tables e below (T41.setTop (mkF m 67 #[.val (.int pn), .val (.int pb0), .val (.int pb1), .val (.int pb2), .val (.int pb3), .val (.int (4 : Int32)), .val (.ref b37), .unset, .unset, .unset, .unset, .unset, .unset, .unset, .unset, .unset, .unset, .unset] [(.int (pb0 &&& (255 : Int32)))])) _
    refine Goes.by (fun _ k => XS.i2l X41.here hx rfl (hb hby at_67) rfl k) ?_
    show Goes p.tables e below (T41.setTop (mkF m 68 #[.val (.int pn), .val (.int pb0), .val (.int pb1), .val (.int pb2), .val (.int pb3), .val (.int (4 : Int32)), .val (.ref b37), .unset, .unset, .unset, .unset, .unset, .unset, .unset, .unset, .unset, .unset, .unset] [(.long ((pb0 &&& (255 : Int32)).toInt64))])) _
    obtain ⟨x42, hx42⟩ : ∃ z : Int64, z = ((pb0 &&& (255 : Int32)).toInt64) := ⟨_, rfl⟩
    refine Goes.by (fun _ k => XS.lstore X41.here hx rfl (hb hby at_68) rfl (l' := #[.val (.int pn), .val (.int pb0), .val (.int pb1), .val (.int pb2), .val (.int pb3), .val (.int (4 : Int32)), .val (.ref b37), .val (.long x42), .second, .unset, .unset, .unset, .unset, .unset, .unset, .unset, .unset, .unset]) (by rw [hx42]; rfl) k) ?_
    show Goes p.tables e below (T41.setTop (mkF m 70 #[.val (.int pn), .val (.int pb0), .val (.int pb1), .val (.int pb2), .val (.int pb3), .val (.int (4 : Int32)), .val (.ref b37), .val (.long x42), .second, .unset, .unset, .unset, .unset, .unset, .unset, .unset, .unset, .unset] [])) _
    refine Goes.by (fun _ k => XS.iloadN X41.here hx rfl (hb hby at_70) rfl k) ?_
    show Goes p.tables e below (T41.setTop (mkF m 71 #[.val (.int pn), .val (.int pb0), .val (.int pb1), .val (.int pb2), .val (.int pb3), .val (.int (4 : Int32)), .val (.ref b37), .val (.long x42), .second, .unset, .unset, .unset, .unset, .unset, .unset, .unset, .unset, .unset] [(.int pb1)])) _
    refine Goes.by (fun _ k => XS.sipush X41.here hx rfl (hb hby at_71) k) ?_
    show Goes p.tables e below (T41.setTop (mkF m 74 #[.val (.int pn), .val (.int pb0), .val (.int pb1), .val (.int pb2), .val (.int pb3), .val (.int (4 : Int32)), .val (.ref b37), .val (.long x42), .second, .unset, .unset, .unset, .unset, .unset, .unset, .unset, .unset, .unset] [(.int (255 : Int32)), (.int pb1)])) _
    refine Goes.by (fun _ k => XS.iand X41.here hx rfl (hb hby at_74) rfl k) ?_
    show Goes p.tables e below (T41.setTop (mkF m 75 #[.val (.int pn), .val (.int pb0), .val (.int pb1), .val (.int pb2), .val (.int pb3), .val (.int (4 : Int32)), .val (.ref b37), .val (.long x42), .second, .unset, .unset, .unset, .unset, .unset, .unset, .unset, .unset, .unset] [(.int (pb1 &&& (255 : Int32)))])) _
    refine Goes.by (fun _ k => XS.i2l X41.here hx rfl (hb hby at_75) rfl k) ?_
    show Goes p.tables e below (T41.setTop (mkF m 76 #[.val (.int pn), .val (.int pb0), .val (.int pb1), .val (.int pb2), .val (.int pb3), .val (.int (4 : Int32)), .val (.ref b37), .val (.long x42), .second, .unset, .unset, .unset, .unset, .unset, .unset, .unset, .unset, .unset] [(.long ((pb1 &&& (255 : Int32)).toInt64))])) _
    obtain ⟨x43, hx43⟩ : ∃ z : Int64, z = ((pb1 &&& (255 : Int32)).toInt64) := ⟨_, rfl⟩
    refine Goes.by (fun _ k => XS.lstore X41.here hx rfl (hb hby at_76) rfl (l' := #[.val (.int pn), .val (.int pb0), .val (.int pb1), .val (.int pb2), .val (.int pb3), .val (.int (4 : Int32)), .val (.ref b37), .val (.long x42), .second, .val (.long x43), .second, .unset, .unset, .unset, .unset, .unset, .unset, .unset]) (by rw [hx43]; rfl) k) ?_
    show Goes p.tables e below (T41.setTop (mkF m 78 #[.val (.int pn), .val (.int pb0), .val (.int pb1), .val (.int pb2), .val (.int pb3), .val (.int (4 : Int32)), .val (.ref b37), .val (.long x42), .second, .val (.long x43), .second, .unset, .unset, .unset, .unset, .unset, .unset, .unset] [])) _
    refine Goes.by (fun _ k => XS.iloadN X41.here hx rfl (hb hby at_78) rfl k) ?_
    show Goes p.tables e below (T41.setTop (mkF m 79 #[.val (.int pn), .val (.int pb0), .val (.int pb1), .val (.int pb2), .val (.int pb3), .val (.int (4 : Int32)), .val (.ref b37), .val (.long x42), .second, .val (.long x43), .second, .unset, .unset, .unset, .unset, .unset, .unset, .unset] [(.int pb2)])) _
    refine Goes.by (fun _ k => XS.sipush X41.here hx rfl (hb hby at_79) k) ?_
    show Goes p.tables e below (T41.setTop (mkF m 82 #[.val (.int pn), .val (.int pb0), .val (.int pb1), .val (.int pb2), .val (.int pb3), .val (.int (4 : Int32)), .val (.ref b37), .val (.long x42), .second, .val (.long x43), .second, .unset, .unset, .unset, .unset, .unset, .unset, .unset] [(.int (255 : Int32)), (.int pb2)])) _
    refine Goes.by (fun _ k => XS.iand X41.here hx rfl (hb hby at_82) rfl k) ?_
    show Goes p.tables e below (T41.setTop (mkF m 83 #[.val (.int pn), .val (.int pb0), .val (.int pb1), .val (.int pb2), .val (.int pb3), .val (.int (4 : Int32)), .val (.ref b37), .val (.long x42), .second, .val (.long x43), .second, .unset, .unset, .unset, .unset, .unset, .unset, .unset] [(.int (pb2 &&& (255 : Int32)))])) _
    refine Goes.by (fun _ k => XS.i2l X41.here hx rfl (hb hby at_83) rfl k) ?_
    show Goes p.tables e below (T41.setTop (mkF m 84 #[.val (.int pn), .val (.int pb0), .val (.int pb1), .val (.int pb2), .val (.int pb3), .val (.int (4 : Int32)), .val (.ref b37), .val (.long x42), .second, .val (.long x43), .second, .unset, .unset, .unset, .unset, .unset, .unset, .unset] [(.long ((pb2 &&& (255 : Int32)).toInt64))])) _
    obtain ⟨x44, hx44⟩ : ∃ z : Int64, z = ((pb2 &&& (255 : Int32)).toInt64) := ⟨_, rfl⟩
    refine Goes.by (fun _ k => XS.lstore X41.here hx rfl (hb hby at_84) rfl (l' := #[.val (.int pn), .val (.int pb0), .val (.int pb1), .val (.int pb2), .val (.int pb3), .val (.int (4 : Int32)), .val (.ref b37), .val (.long x42), .second, .val (.long x43), .second, .val (.long x44), .second, .unset, .unset, .unset, .unset, .unset]) (by rw [hx44]; rfl) k) ?_
    show Goes p.tables e below (T41.setTop (mkF m 86 #[.val (.int pn), .val (.int pb0), .val (.int pb1), .val (.int pb2), .val (.int pb3), .val (.int (4 : Int32)), .val (.ref b37), .val (.long x42), .second, .val (.long x43), .second, .val (.long x44), .second, .unset, .unset, .unset, .unset, .unset] [])) _
    refine Goes.by (fun _ k => XS.iload X41.here hx rfl (hb hby at_86) rfl k) ?_
    show Goes p.tables e below (T41.setTop (mkF m 88 #[.val (.int pn), .val (.int pb0), .val (.int pb1), .val (.int pb2), .val (.int pb3), .val (.int (4 : Int32)), .val (.ref b37), .val (.long x42), .second, .val (.long x43), .second, .val (.long x44), .second, .unset, .unset, .unset, .unset, .unset] [(.int pb3)])) _
    refine Goes.by (fun _ k => XS.sipush X41.here hx rfl (hb hby at_88) k) ?_
    show Goes p.tables e below (T41.setTop (mkF m 91 #[.val (.int pn), .val (.int pb0), .val (.int pb1), .val (.int pb2), .val (.int pb3), .val (.int (4 : Int32)), .val (.ref b37), .val (.long x42), .second, .val (.long x43), .second, .val (.long x44), .second, .unset, .unset, .unset, .unset, .unset] [(.int (255 : Int32)), (.int pb3)])) _
    refine Goes.by (fun _ k => XS.iand X41.here hx rfl (hb hby at_91) rfl k) ?_
    show Goes p.tables e below (T41.setTop (mkF m 92 #[.val (.int pn), .val (.int pb0), .val (.int pb1), .val (.int pb2), .val (.int pb3), .val (.int (4 : Int32)), .val (.ref b37), .val (.long x42), .second, .val (.long x43), .second, .val (.long x44), .second, .unset, .unset, .unset, .unset, .unset] [(.int (pb3 &&& (255 : Int32)))])) _
    refine Goes.by (fun _ k => XS.i2l X41.here hx rfl (hb hby at_92) rfl k) ?_
    show Goes p.tables e below (T41.setTop (mkF m 93 #[.val (.int pn), .val (.int pb0), .val (.int pb1), .val (.int pb2), .val (.int pb3), .val (.int (4 : Int32)), .val (.ref b37), .val (.long x42), .second, .val (.long x43), .second, .val (.long x44), .second, .unset, .unset, .unset, .unset, .unset] [(.long ((pb3 &&& (255 : Int32)).toInt64))])) _
    obtain ⟨x45, hx45⟩ : ∃ z : Int64, z = ((pb3 &&& (255 : Int32)).toInt64) := ⟨_, rfl⟩
    refine Goes.by (fun _ k => XS.lstore X41.here hx rfl (hb hby at_93) rfl (l' := #[.val (.int pn), .val (.int pb0), .val (.int pb1), .val (.int pb2), .val (.int pb3), .val (.int (4 : Int32)), .val (.ref b37), .val (.long x42), .second, .val (.long x43), .second, .val (.long x44), .second, .val (.long x45), .second, .unset, .unset, .unset]) (by rw [hx45]; rfl) k) ?_
    show Goes p.tables e below (T41.setTop (mkF m 95 #[.val (.int pn), .val (.int pb0), .val (.int pb1), .val (.int pb2), .val (.int pb3), .val (.int (4 : Int32)), .val (.ref b37), .val (.long x42), .second, .val (.long x43), .second, .val (.long x44), .second, .val (.long x45), .second, .unset, .unset, .unset] [])) _
    refine Goes.by (fun _ k => XS.iload X41.here hx rfl (hb hby at_95) rfl k) ?_
    show Goes p.tables e below (T41.setTop (mkF m 97 #[.val (.int pn), .val (.int pb0), .val (.int pb1), .val (.int pb2), .val (.int pb3), .val (.int (4 : Int32)), .val (.ref b37), .val (.long x42), .second, .val (.long x43), .second, .val (.long x44), .second, .val (.long x45), .second, .unset, .unset, .unset] [(.int (4 : Int32))])) _
    refine Goes.by (fun _ k => XS.ifYes X41.here hx rfl (pc0 := 97) (pc' := 106) rfl (hb hby at_97) rfl ((if0 _ _).trans (feq (by decide : ¬ ((4 : Int32) = (0 : Int32)))).2) (by decide) (by decide) k) ?_
    show Goes p.tables e below (T41.setTop (mkF m 106 #[.val (.int pn), .val (.int pb0), .val (.int pb1), .val (.int pb2), .val (.int pb3), .val (.int (4 : Int32)), .val (.ref b37), .val (.long x42), .second, .val (.long x43), .second, .val (.long x44), .second, .val (.long x45), .second, .unset, .unset, .unset] [])) _
    refine Goes.by (fun _ k => XS.iload X41.here hx rfl (hb hby at_106) rfl k) ?_
    show Goes p.tables e below (T41.setTop (mkF m 108 #[.val (.int pn), .val (.int pb0), .val (.int pb1), .val (.int pb2), .val (.int pb3), .val (.int (4 : Int32)), .val (.ref b37), .val (.long x42), .second, .val (.long x43), .second, .val (.long x44), .second, .val (.long x45), .second, .unset, .unset, .unset] [(.int (4 : Int32))])) _
    refine Goes.by (fun _ k => XS.iconst X41.here hx rfl (hb hby at_108) k) ?_
    show Goes p.tables e below (T41.setTop (mkF m 109 #[.val (.int pn), .val (.int pb0), .val (.int pb1), .val (.int pb2), .val (.int pb3), .val (.int (4 : Int32)), .val (.ref b37), .val (.long x42), .second, .val (.long x43), .second, .val (.long x44), .second, .val (.long x45), .second, .unset, .unset, .unset] [(.int (1 : Int32)), (.int (4 : Int32))])) _
    refine Goes.by (fun _ k => XS.icmpYes X41.here hx rfl (pc0 := 109) (pc' := 119) rfl (hb hby at_109) rfl (feq (by decide : ¬ ((4 : Int32) = (1 : Int32)))).2 (by decide) (by decide) k) ?_
    show Goes p.tables e below (T41.setTop (mkF m 119 #[.val (.int pn), .val (.int pb0), .val (.int pb1), .val (.int pb2), .val (.int pb3), .val (.int (4 : Int32)), .val (.ref b37), .val (.long x42), .second, .val (.long x43), .second, .val (.long x44), .second, .val (.long x45), .second, .unset, .unset, .unset] [])) _
    refine Goes.by (fun _ k => XS.iload X41.here hx rfl (hb hby at_119) rfl k) ?_
    show Goes p.tables e below (T41.setTop (mkF m 121 #[.val (.int pn), .val (.int pb0), .val (.int pb1), .val (.int pb2), .val (.int pb3), .val (.int (4 : Int32)), .val (.ref b37), .val (.long x42), .second, .val (.long x43), .second, .val (.long x44), .second, .val (.long x45), .second, .unset, .unset, .unset] [(.int (4 : Int32))])) _
    refine Goes.by (fun _ k => XS.iconst X41.here hx rfl (hb hby at_121) k) ?_
    show Goes p.tables e below (T41.setTop (mkF m 122 #[.val (.int pn), .val (.int pb0), .val (.int pb1), .val (.int pb2), .val (.int pb3), .val (.int (4 : Int32)), .val (.ref b37), .val (.long x42), .second, .val (.long x43), .second, .val (.long x44), .second, .val (.long x45), .second, .unset, .unset, .unset] [(.int (2 : Int32)), (.int (4 : Int32))])) _
    refine Goes.by (fun _ k => XS.icmpYes X41.here hx rfl (pc0 := 122) (pc' := 139) rfl (hb hby at_122) rfl (feq (by decide : ¬ ((4 : Int32) = (2 : Int32)))).2 (by decide) (by decide) k) ?_
    show Goes p.tables e below (T41.setTop (mkF m 139 #[.val (.int pn), .val (.int pb0), .val (.int pb1), .val (.int pb2), .val (.int pb3), .val (.int (4 : Int32)), .val (.ref b37), .val (.long x42), .second, .val (.long x43), .second, .val (.long x44), .second, .val (.long x45), .second, .unset, .unset, .unset] [])) _
    refine Goes.by (fun _ k => XS.iload X41.here hx rfl (hb hby at_139) rfl k) ?_
    show Goes p.tables e below (T41.setTop (mkF m 141 #[.val (.int pn), .val (.int pb0), .val (.int pb1), .val (.int pb2), .val (.int pb3), .val (.int (4 : Int32)), .val (.ref b37), .val (.long x42), .second, .val (.long x43), .second, .val (.long x44), .second, .val (.long x45), .second, .unset, .unset, .unset] [(.int (4 : Int32))])) _
    refine Goes.by (fun _ k => XS.iconst X41.here hx rfl (hb hby at_141) k) ?_
    show Goes p.tables e below (T41.setTop (mkF m 142 #[.val (.int pn), .val (.int pb0), .val (.int pb1), .val (.int pb2), .val (.int pb3), .val (.int (4 : Int32)), .val (.ref b37), .val (.long x42), .second, .val (.long x43), .second, .val (.long x44), .second, .val (.long x45), .second, .unset, .unset, .unset] [(.int (3 : Int32)), (.int (4 : Int32))])) _
    refine Goes.by (fun _ k => XS.icmpYes X41.here hx rfl (pc0 := 142) (pc' := 166) rfl (hb hby at_142) rfl (feq (by decide : ¬ ((4 : Int32) = (3 : Int32)))).2 (by decide) (by decide) k) ?_
    show Goes p.tables e below (T41.setTop (mkF m 166 #[.val (.int pn), .val (.int pb0), .val (.int pb1), .val (.int pb2), .val (.int pb3), .val (.int (4 : Int32)), .val (.ref b37), .val (.long x42), .second, .val (.long x43), .second, .val (.long x44), .second, .val (.long x45), .second, .unset, .unset, .unset] [])) _
    refine Goes.by (fun _ k => XS.lload X41.here hx rfl (hb hby at_166) rfl k) ?_
    show Goes p.tables e below (T41.setTop (mkF m 168 #[.val (.int pn), .val (.int pb0), .val (.int pb1), .val (.int pb2), .val (.int pb3), .val (.int (4 : Int32)), .val (.ref b37), .val (.long x42), .second, .val (.long x43), .second, .val (.long x44), .second, .val (.long x45), .second, .unset, .unset, .unset] [(.long x42)])) _
    refine Goes.by (fun _ k => X41.ldc2J hx hown (mvT hZ (hw _ (List.mem_of_getElem? (i := 8) rfl))) (g := (mkF m 168 #[.val (.int pn), .val (.int pb0), .val (.int pb1), .val (.int pb2), .val (.int pb3), .val (.int (4 : Int32)), .val (.ref b37), .val (.long x42), .second, .val (.long x43), .second, .val (.long x44), .second, .val (.long x45), .second, .unset, .unset, .unset] [(.long x42)])) rfl (hb hby at_168) k) ?_
    show Goes p.tables e below (T41.setTop (mkF m 171 #[.val (.int pn), .val (.int pb0), .val (.int pb1), .val (.int pb2), .val (.int pb3), .val (.int (4 : Int32)), .val (.ref b37), .val (.long x42), .second, .val (.long x43), .second, .val (.long x44), .second, .val (.long x45), .second, .unset, .unset, .unset] [(.long (16777216 : Int64)), (.long x42)])) _
    refine Goes.by (fun _ k => XS.lmul X41.here hx rfl (hb hby at_171) rfl k) ?_
    show Goes p.tables e below (T41.setTop (mkF m 172 #[.val (.int pn), .val (.int pb0), .val (.int pb1), .val (.int pb2), .val (.int pb3), .val (.int (4 : Int32)), .val (.ref b37), .val (.long x42), .second, .val (.long x43), .second, .val (.long x44), .second, .val (.long x45), .second, .unset, .unset, .unset] [(.long (x42 * (16777216 : Int64)))])) _
    refine Goes.by (fun _ k => XS.lload X41.here hx rfl (hb hby at_172) rfl k) ?_
    show Goes p.tables e below (T41.setTop (mkF m 174 #[.val (.int pn), .val (.int pb0), .val (.int pb1), .val (.int pb2), .val (.int pb3), .val (.int (4 : Int32)), .val (.ref b37), .val (.long x42), .second, .val (.long x43), .second, .val (.long x44), .second, .val (.long x45), .second, .unset, .unset, .unset] [(.long x43), (.long (x42 * (16777216 : Int64)))])) _
    refine Goes.by (fun _ k => X41.ldc2J hx hown (mvT hZ (hw _ (List.mem_of_getElem? (i := 6) rfl))) (g := (mkF m 174 #[.val (.int pn), .val (.int pb0), .val (.int pb1), .val (.int pb2), .val (.int pb3), .val (.int (4 : Int32)), .val (.ref b37), .val (.long x42), .second, .val (.long x43), .second, .val (.long x44), .second, .val (.long x45), .second, .unset, .unset, .unset] [(.long x43), (.long (x42 * (16777216 : Int64)))])) rfl (hb hby at_174) k) ?_
    show Goes p.tables e below (T41.setTop (mkF m 177 #[.val (.int pn), .val (.int pb0), .val (.int pb1), .val (.int pb2), .val (.int pb3), .val (.int (4 : Int32)), .val (.ref b37), .val (.long x42), .second, .val (.long x43), .second, .val (.long x44), .second, .val (.long x45), .second, .unset, .unset, .unset] [(.long (65536 : Int64)), (.long x43), (.long (x42 * (16777216 : Int64)))])) _
    refine Goes.by (fun _ k => XS.lmul X41.here hx rfl (hb hby at_177) rfl k) ?_
    show Goes p.tables e below (T41.setTop (mkF m 178 #[.val (.int pn), .val (.int pb0), .val (.int pb1), .val (.int pb2), .val (.int pb3), .val (.int (4 : Int32)), .val (.ref b37), .val (.long x42), .second, .val (.long x43), .second, .val (.long x44), .second, .val (.long x45), .second, .unset, .unset, .unset] [(.long (x43 * (65536 : Int64))), (.long (x42 * (16777216 : Int64)))])) _
    refine Goes.by (fun _ k => XS.ladd X41.here hx rfl (hb hby at_178) rfl k) ?_
    show Goes p.tables e below (T41.setTop (mkF m 179 #[.val (.int pn), .val (.int pb0), .val (.int pb1), .val (.int pb2), .val (.int pb3), .val (.int (4 : Int32)), .val (.ref b37), .val (.long x42), .second, .val (.long x43), .second, .val (.long x44), .second, .val (.long x45), .second, .unset, .unset, .unset] [(.long ((x42 * (16777216 : Int64)) + (x43 * (65536 : Int64))))])) _
    refine Goes.by (fun _ k => XS.lload X41.here hx rfl (hb hby at_179) rfl k) ?_
    show Goes p.tables e below (T41.setTop (mkF m 181 #[.val (.int pn), .val (.int pb0), .val (.int pb1), .val (.int pb2), .val (.int pb3), .val (.int (4 : Int32)), .val (.ref b37), .val (.long x42), .second, .val (.long x43), .second, .val (.long x44), .second, .val (.long x45), .second, .unset, .unset, .unset] [(.long x44), (.long ((x42 * (16777216 : Int64)) + (x43 * (65536 : Int64))))])) _
    refine Goes.by (fun _ k => X41.ldc2J hx hown (mvT hZ (hw _ (List.mem_of_getElem? (i := 7) rfl))) (g := (mkF m 181 #[.val (.int pn), .val (.int pb0), .val (.int pb1), .val (.int pb2), .val (.int pb3), .val (.int (4 : Int32)), .val (.ref b37), .val (.long x42), .second, .val (.long x43), .second, .val (.long x44), .second, .val (.long x45), .second, .unset, .unset, .unset] [(.long x44), (.long ((x42 * (16777216 : Int64)) + (x43 * (65536 : Int64))))])) rfl (hb hby at_181) k) ?_
    show Goes p.tables e below (T41.setTop (mkF m 184 #[.val (.int pn), .val (.int pb0), .val (.int pb1), .val (.int pb2), .val (.int pb3), .val (.int (4 : Int32)), .val (.ref b37), .val (.long x42), .second, .val (.long x43), .second, .val (.long x44), .second, .val (.long x45), .second, .unset, .unset, .unset] [(.long (256 : Int64)), (.long x44), (.long ((x42 * (16777216 : Int64)) + (x43 * (65536 : Int64))))])) _
    refine Goes.by (fun _ k => XS.lmul X41.here hx rfl (hb hby at_184) rfl k) ?_
    show Goes p.tables e below (T41.setTop (mkF m 185 #[.val (.int pn), .val (.int pb0), .val (.int pb1), .val (.int pb2), .val (.int pb3), .val (.int (4 : Int32)), .val (.ref b37), .val (.long x42), .second, .val (.long x43), .second, .val (.long x44), .second, .val (.long x45), .second, .unset, .unset, .unset] [(.long (x44 * (256 : Int64))), (.long ((x42 * (16777216 : Int64)) + (x43 * (65536 : Int64))))])) _
    refine Goes.by (fun _ k => XS.ladd X41.here hx rfl (hb hby at_185) rfl k) ?_
    show Goes p.tables e below (T41.setTop (mkF m 186 #[.val (.int pn), .val (.int pb0), .val (.int pb1), .val (.int pb2), .val (.int pb3), .val (.int (4 : Int32)), .val (.ref b37), .val (.long x42), .second, .val (.long x43), .second, .val (.long x44), .second, .val (.long x45), .second, .unset, .unset, .unset] [(.long (((x42 * (16777216 : Int64)) + (x43 * (65536 : Int64))) + (x44 * (256 : Int64))))])) _
    refine Goes.by (fun _ k => XS.lload X41.here hx rfl (hb hby at_186) rfl k) ?_
    show Goes p.tables e below (T41.setTop (mkF m 188 #[.val (.int pn), .val (.int pb0), .val (.int pb1), .val (.int pb2), .val (.int pb3), .val (.int (4 : Int32)), .val (.ref b37), .val (.long x42), .second, .val (.long x43), .second, .val (.long x44), .second, .val (.long x45), .second, .unset, .unset, .unset] [(.long x45), (.long (((x42 * (16777216 : Int64)) + (x43 * (65536 : Int64))) + (x44 * (256 : Int64))))])) _
    refine Goes.by (fun _ k => XS.ladd X41.here hx rfl (hb hby at_188) rfl k) ?_
    show Goes p.tables e below (T41.setTop (mkF m 189 #[.val (.int pn), .val (.int pb0), .val (.int pb1), .val (.int pb2), .val (.int pb3), .val (.int (4 : Int32)), .val (.ref b37), .val (.long x42), .second, .val (.long x43), .second, .val (.long x44), .second, .val (.long x45), .second, .unset, .unset, .unset] [(.long ((((x42 * (16777216 : Int64)) + (x43 * (65536 : Int64))) + (x44 * (256 : Int64))) + x45))])) _
    obtain ⟨x46, hx46⟩ : ∃ z : Int64, z = ((((x42 * (16777216 : Int64)) + (x43 * (65536 : Int64))) + (x44 * (256 : Int64))) + x45) := ⟨_, rfl⟩
    refine Goes.by (fun _ k => XS.lstore X41.here hx rfl (hb hby at_189) rfl (l' := #[.val (.int pn), .val (.int pb0), .val (.int pb1), .val (.int pb2), .val (.int pb3), .val (.int (4 : Int32)), .val (.ref b37), .val (.long x42), .second, .val (.long x43), .second, .val (.long x44), .second, .val (.long x45), .second, .val (.long x46), .second, .unset]) (by rw [hx46]; rfl) k) ?_
    show Goes p.tables e below (T41.setTop (mkF m 191 #[.val (.int pn), .val (.int pb0), .val (.int pb1), .val (.int pb2), .val (.int pb3), .val (.int (4 : Int32)), .val (.ref b37), .val (.long x42), .second, .val (.long x43), .second, .val (.long x44), .second, .val (.long x45), .second, .val (.long x46), .second, .unset] [])) _
    refine Goes.by (fun _ k => XS.aload X41.here hx rfl (hb hby at_191) rfl rfl k) ?_
    show Goes p.tables e below (T41.setTop (mkF m 193 #[.val (.int pn), .val (.int pb0), .val (.int pb1), .val (.int pb2), .val (.int pb3), .val (.int (4 : Int32)), .val (.ref b37), .val (.long x42), .second, .val (.long x43), .second, .val (.long x44), .second, .val (.long x45), .second, .val (.long x46), .second, .unset] [(.ref b37)])) _
    obtain ⟨_, _, ⟨T47, L47, k47, n47⟩, -, X47, ⟨Lc47, hQ47, l47, y47, z47⟩, st47⟩ := Jvm.LawKit.callS X41 hx (y := (⟨"castkey/card/ModeObjects", "number", "([B)I"⟩ : MethodName)) hown (mvT hZ (hw _ (List.mem_of_getElem? (i := 2) rfl))) (mvT hZ (hw _ (List.mem_of_getElem? (i := 3) rfl))) (mvT hZ (hw _ (List.mem_of_getElem? (i := 4) rfl))) (mvT hZ (hw _ (List.mem_of_getElem? (i := 5) rfl))) (by decide) (backOf (W := 0) (rm1n4 l Z a0 hw [] b37 (up (up (up (up (fun _ => (0 : Int32)) 0 ((pb0.toInt8.toInt32).toInt8.toInt32)) 1 ((pb1.toInt8.toInt32).toInt8.toInt32)) 2 ((pb2.toInt8.toInt32).toInt8.toInt32)) 3 ((pb3.toInt8.toInt32).toInt8.toInt32)) h41 n0 Zs41 A_b37) hZ (hw _ (List.mem_of_getElem? (i := 5) rfl)) (hw _ (List.mem_of_getElem? (i := 4) rfl)) (by decide) (by decide)) (g := (mkF m 193 #[.val (.int pn), .val (.int pb0), .val (.int pb1), .val (.int pb2), .val (.int pb3), .val (.int (4 : Int32)), .val (.ref b37), .val (.long x42), .second, .val (.long x43), .second, .val (.long x44), .second, .val (.long x45), .second, .val (.long x46), .second, .unset] [(.ref b37)])) rfl (by rw [hml]; rfl) (argsL := [(.ref b37)]) (rest := []) (lenOf pd_0 rfl) rfl (by show 2 * 0 + _ ≤ _; exact Nat.le_of_eq rfl) (hb hby at_193) (fun _ _ => ⟨rfl, e41, (by decide : 1 + 0 ≤ _), (by decide : 4 + 0 ≤ _)⟩)
    dsimp only [Pt.U, Pt.locs, Pt.cells, Pt.slots] at X47 l47 y47 z47 st47 hQ47
    subst l47 y47 z47
    obtain ⟨rfl, N47q, e47⟩ := hQ47
    have N47 := Fr.app N41 N47q
    refine Goes.by st47 ?_
    show Goes p.tables e below (T47.setTop (mkF m 196 #[.val (.int pn), .val (.int pb0), .val (.int pb1), .val (.int pb2), .val (.int pb3), .val (.int (4 : Int32)), .val (.ref b37), .val (.long x42), .second, .val (.long x43), .second, .val (.long x44), .second, .val (.long x45), .second, .val (.long x46), .second, .unset] [(.int (((((((((0 : Int32) <<< ((8 : Int32) &&& 31)) ||| (((pb0.toInt8.toInt32).toInt8.toInt32) &&& (255 : Int32))) <<< ((8 : Int32) &&& 31)) ||| (((pb1.toInt8.toInt32).toInt8.toInt32) &&& (255 : Int32))) <<< ((8 : Int32) &&& 31)) ||| (((pb2.toInt8.toInt32).toInt8.toInt32) &&& (255 : Int32))) <<< ((8 : Int32) &&& 31)) ||| (((pb3.toInt8.toInt32).toInt8.toInt32) &&& (255 : Int32))))])) _
    obtain ⟨x48, hx48⟩ : ∃ z : Int32, z = (((((((((0 : Int32) <<< ((8 : Int32) &&& 31)) ||| (((pb0.toInt8.toInt32).toInt8.toInt32) &&& (255 : Int32))) <<< ((8 : Int32) &&& 31)) ||| (((pb1.toInt8.toInt32).toInt8.toInt32) &&& (255 : Int32))) <<< ((8 : Int32) &&& 31)) ||| (((pb2.toInt8.toInt32).toInt8.toInt32) &&& (255 : Int32))) <<< ((8 : Int32) &&& 31)) ||| (((pb3.toInt8.toInt32).toInt8.toInt32) &&& (255 : Int32))) := ⟨_, rfl⟩
    refine Goes.by (fun _ k => XS.istore X47.here hx rfl (hb hby at_196) rfl (l' := #[.val (.int pn), .val (.int pb0), .val (.int pb1), .val (.int pb2), .val (.int pb3), .val (.int (4 : Int32)), .val (.ref b37), .val (.long x42), .second, .val (.long x43), .second, .val (.long x44), .second, .val (.long x45), .second, .val (.long x46), .second, .val (.int x48)]) (by rw [hx48]; rfl) k) ?_
    show Goes p.tables e below (T47.setTop (mkF m 198 #[.val (.int pn), .val (.int pb0), .val (.int pb1), .val (.int pb2), .val (.int pb3), .val (.int (4 : Int32)), .val (.ref b37), .val (.long x42), .second, .val (.long x43), .second, .val (.long x44), .second, .val (.long x45), .second, .val (.long x46), .second, .val (.int x48)] [])) _
    refine Goes.by (fun _ k => XS.iload X47.here hx rfl (hb hby at_198) rfl k) ?_
    show Goes p.tables e below (T47.setTop (mkF m 200 #[.val (.int pn), .val (.int pb0), .val (.int pb1), .val (.int pb2), .val (.int pb3), .val (.int (4 : Int32)), .val (.ref b37), .val (.long x42), .second, .val (.long x43), .second, .val (.long x44), .second, .val (.long x45), .second, .val (.long x46), .second, .val (.int x48)] [(.int x48)])) _
    refine Goes.by (fun _ k => XS.lload X47.here hx rfl (hb hby at_200) rfl k) ?_
    show Goes p.tables e below (T47.setTop (mkF m 202 #[.val (.int pn), .val (.int pb0), .val (.int pb1), .val (.int pb2), .val (.int pb3), .val (.int (4 : Int32)), .val (.ref b37), .val (.long x42), .second, .val (.long x43), .second, .val (.long x44), .second, .val (.long x45), .second, .val (.long x46), .second, .val (.int x48)] [(.long x46), (.int x48)])) _
    refine Goes.by (fun _ k => XS.l2i X47.here hx rfl (hb hby at_202) rfl k) ?_
    show Goes p.tables e below (T47.setTop (mkF m 203 #[.val (.int pn), .val (.int pb0), .val (.int pb1), .val (.int pb2), .val (.int pb3), .val (.int (4 : Int32)), .val (.ref b37), .val (.long x42), .second, .val (.long x43), .second, .val (.long x44), .second, .val (.long x45), .second, .val (.long x46), .second, .val (.int x48)] [(.int (x46.toInt32)), (.int x48)])) _
    refine Goes.by (fun _ k => XS.icmpNo X47.here hx rfl (hb hby at_203) rfl (teq (by rw [hx48, hx46, hx42, hx43, hx44, hx45]; exact own_c4 pb0 pb1 pb2 pb3 : x48 = (x46.toInt32))).2 k) ?_
    show Goes p.tables e below (T47.setTop (mkF m 206 #[.val (.int pn), .val (.int pb0), .val (.int pb1), .val (.int pb2), .val (.int pb3), .val (.int (4 : Int32)), .val (.ref b37), .val (.long x42), .second, .val (.long x43), .second, .val (.long x44), .second, .val (.long x45), .second, .val (.long x46), .second, .val (.int x48)] [])) _
    refine Goes.by (fun _ k => XS.iconst X47.here hx rfl (hb hby at_206) k) ?_
    show Goes p.tables e below (T47.setTop (mkF m 207 #[.val (.int pn), .val (.int pb0), .val (.int pb1), .val (.int pb2), .val (.int pb3), .val (.int (4 : Int32)), .val (.ref b37), .val (.long x42), .second, .val (.long x43), .second, .val (.long x44), .second, .val (.long x45), .second, .val (.long x46), .second, .val (.int x48)] [(.int (1 : Int32))])) _
    refine Goes.by (fun _ k => XS.goto X47.here hx rfl (pc0 := 207) (pc' := 211) rfl (hb hby at_207) (by decide) (by decide) k) ?_
    show Goes p.tables e below (T47.setTop (mkF m 211 #[.val (.int pn), .val (.int pb0), .val (.int pb1), .val (.int pb2), .val (.int pb3), .val (.int (4 : Int32)), .val (.ref b37), .val (.long x42), .second, .val (.long x43), .second, .val (.long x44), .second, .val (.long x45), .second, .val (.long x46), .second, .val (.int x48)] [(.int (1 : Int32))])) _
    obtain ⟨fs, hr, hrun, hended, hW, hsame⟩ := X47.leave (v := some (.int (1 : Int32))) (fun h => by rw [Bd.returns] at h; cases h)
    refine ⟨_, _, retN X47 hx (t := .boolean) Bd.returns (by simp) (hb hby at_211) hr, hrun, hended, _, _, rfl, ?_, ⟨_, rfl⟩, hW, hsame.mono (by decide) (by decide)⟩
    show Q0 Z pn pb0 pb1 pb2 pb3 h0 n0 _ T47.heap _
    rw [e47]
    exact ⟨rfl, N47⟩
set_option maxRecDepth 65536 in
set_option maxHeartbeats 40000000 in
theorem comes_1 {Post : Tables → Env → Array Value → State → Outcome → State → Prop} (hpost : ∀ tb e args s v u, (limb_1_1.after args s (.returned v) u = true ∧ limb_1_2.after args s (.returned v) u = true ∧ True) → FrameEnd s (.returned v) u (Jvm.fieldLocs frame_1_writes args s ++ Jvm.arrayLocs frame_1_arrays args s ++ Jvm.staticLocs frame_1_statics s) 16 128 → Post tb e args s (.returned v) u) :
    ArmFor flags0 classFile x code maxLocals ret World_1 tables_1 room_1 Calls_1 rest_1 Pre_1 Post := by
  intro l hfl _ _ p e ha hc hk s m args below hf hA hF happ hP
  obtain ⟨hcalls, hrest, hpre⟩ := hP
  obtain ⟨-, -, -, hnamed, -, -, -, hat⟩ := (Spec.applies_iff hf).mp happ
  obtain ⟨hg, hn⟩ := and_e (Cond.before_iff.mp (show (Jvm.Cond.and given_1 narrow_1).before args s = true from hpre))
  obtain ⟨g1, g2⟩ := and_e hg
  obtain ⟨g3, g4⟩ := and_e g2
  obtain ⟨g5, g6⟩ := and_e g4
  obtain ⟨g7, g8⟩ := and_e g6
  obtain ⟨g9, g10⟩ := and_e g8
  obtain ⟨w0, w1, w2, w3, w4, rfl⟩ : ∃ w0 w1 w2 w3 w4 : Value, args = #[w0, w1, w2, w3, w4] := by
    have hs : args.size = 5 := by simpa [Cond.value, given_1] using g1
    obtain ⟨L⟩ := args
    match L, hs with
    | [w0, w1, w2, w3, w4], _ => exact ⟨w0, w1, w2, w3, w4, rfl⟩
  have hw := fun d (hd : d ∈ tables_1) => atoms_spec (ws := Jvm.Cond.code x code maxLocals ret :: tables_1) hat d (List.mem_cons_of_mem _ hd)
  have hfit : Fit s := fun {y c} hc i hi => by
    obtain ⟨ha, rfl⟩ := Array.getElem?_eq_some_iff.mp hc
    have q := List.all_eq_true.mp ((Array.all_eq_true_iff_forall_mem.mp hF) _ (Array.getElem_mem ha)) i (List.mem_range.mpr hi)
    simpa [Array.getElem?_eq_getElem hi] using q
  obtain ⟨i0, ei0⟩ := is_v g3
  obtain rfl : w0 = (.int i0) := Option.some.inj ei0
  obtain ⟨i1, ei1⟩ := is_v g5
  obtain rfl : w1 = (.int i1) := Option.some.inj ei1
  obtain ⟨i2, ei2⟩ := is_v g7
  obtain rfl : w2 = (.int i2) := Option.some.inj ei2
  obtain ⟨i3, ei3⟩ := is_v g9
  obtain rfl : w3 = (.int i3) := Option.some.inj ei3
  obtain ⟨i4, ei4⟩ := is_v g10
  obtain rfl : w4 = (.int i4) := Option.some.inj ei4
  obtain ⟨n, o, h1, h2, h3, _, L, rfl, ⟨hv0, N⟩, hq⟩ := rm0 l s _ hw tables_1 i0 i1 i2 i3 i4 s.heap s.heap.size (Nat.le_refl _) p e ha hc hk s m _ below hf ((Spec.applies_iff_loose hf).mp happ).1 ⟨rfl, State.Warmed39.refl s, rfl⟩ trivial
  subst hv0
  refine ⟨n, _, h1, h2, h3, hpost _ _ _ _ _ _ ⟨Cond.after_iff.mpr rfl, Cond.after_iff.mpr (eq_i res_at (Term.int_eval (1)) rfl), trivial⟩ ⟨hq.1, hq.2.1, (hq.2.2.sift fun y hy => Or.inr (N y hy)).mono (by decide) (by decide)⟩⟩
theorem main_1_1 : Claimed_1_1 := comes_1 fun _ _ _ _ _ _ h hF => ⟨h.1, hF⟩
theorem main_1_2 : Claimed_1_2 := comes_1 fun _ _ _ _ _ _ h hF => ⟨h.2.1, hF⟩
end Jvm.Pilot.@@N@@
namespace Jvm.Pilot.@@N@@
open Jvm Jvm.ClassFile Sem Op Lib Jvm.Free Jvm.Stand Jvm.Pilot.@@N@@.Jvm.D
/-! MADE BY PROGRAM (witnessworld.py) out of the Statement's table words and the real class files: 9 classes; the members and pool entries that the words name. The judged class is class 1, her method 1. -/
namespace start1
open Jvm.ClassFile
def u (s : String) : CpInfo := .utf8 (stringToUtf16 s)
/-- a pool by its gaps: so many unusable entries, then the entry; so many at the end -/
def gap : Nat → List CpInfo → List CpInfo
  | 0, r => r
  | n + 1, r => .unusable :: gap n r
def poolList (es : List (Nat × CpInfo)) (last : Nat) : List CpInfo := es.foldr (fun e r => gap e.1 (e.2 :: r)) (gap last [])
def pool (es : List (Nat × CpInfo)) (last : Nat) : Array CpInfo := ⟨poolList es last⟩
def fileOf (pool : Array CpInfo) (this : Nat) (attrs : Array Attribute := #[]) (ms : Array MethodInfo := #[]) (fl : Nat := 33) (sup : Nat := 0) (ifs : Array Nat := #[]) (fds : Array FieldInfo := #[]) : ClassFile where
  minorVersion := 0
  majorVersion := 65
  constantPool := pool
  accessFlags := fl
  thisClass := this
  superClass := sup
  interfaces := ifs
  fields := fds
  methods := ms
  attributes := attrs
def plain (name : String) (sup : Option ClassId) : Class where
  name := name
  kind := .ordinary
  loader := none
  accessFlags := 33
  super := sup
  interfaces := #[]
  cf := none
  fields := #[]
  methods := #[]
  instanceTypes := #[]
  staticTypes := #[]
  resolved := #[]
  callSites := []
  init := .initialized
  statics := none
  mirror := none

def pool0 : Array CpInfo := pool [(5, u "<init>"), (0, u "()V"), (1, .class_ 10), (1, u "java/lang/Object")] 113

def k0m0 : Method := { name := "<init>", desc := "()V", sig := { parameters := [], returnType := none }, accessFlags := 1, code := none }
/-- java/lang/Object -/
def k0 : Class := { plain "java/lang/Object" none with
  accessFlags := 33
  interfaces := #[]
  cf := some (fileOf pool0 8 #[] #[{ accessFlags := 1, nameIndex := 5, descriptorIndex := 6, attributes := #[] }] 33 0 #[] #[])
  fields := #[]
  methods := #[k0m0]
  instanceTypes := #[]
  staticTypes := #[]
  resolved := Array.replicate 124 none
  statics := none }

def pool1 : Array CpInfo := pool [(2, .class_ 4), (1, u "java/lang/Object"), (0, u "<init>"), (0, u "()V"), (0, .integer 2147483647), (0, .long 256), (1, .long 65536), (1, .long 16777216), (1, .methodref 15 16), (0, .class_ 17), (0, .nameAndType 18 19), (0, u "castkey/card/ModeObjects"), (0, u "number"), (0, u "([B)I"), (0, .class_ 21), (0, u "castkey/card/ModeObjectsNumberPinLaw"), (2, u "law"), (0, u "(IIIII)Z")] 5

def k1m0 : Method := { name := "<init>", desc := "()V", sig := { parameters := [], returnType := none }, accessFlags := 2, code := none }
def k1c1 : Code := { maxStack := 6, maxLocals := 18, code := code, exceptionTable := #[], attributes := #[] }
def k1m1 : Method := { name := "law", desc := "(IIIII)Z", sig := { parameters := [.int, .int, .int, .int, .int], returnType := some .boolean }, accessFlags := 9, code := some k1c1 }
/-- castkey/card/ModeObjectsNumberPinLaw -/
def k1 : Class := { plain "castkey/card/ModeObjectsNumberPinLaw" (some 0) with
  accessFlags := 49
  interfaces := #[]
  cf := some (fileOf pool1 20 #[] #[{ accessFlags := 2, nameIndex := 5, descriptorIndex := 6, attributes := #[] }, { accessFlags := 9, nameIndex := 24, descriptorIndex := 25, attributes := #[] }] 49 2 #[] #[])
  fields := #[]
  methods := #[k1m0, k1m1]
  instanceTypes := #[]
  staticTypes := #[]
  resolved := Array.replicate 31 none
  statics := none }

def pool2 : Array CpInfo := pool [(2, .class_ 4), (1, u "java/lang/Object"), (0, u "<init>"), (0, u "()V"), (61, .class_ 69), (0, u "castkey/card/ModeObjects$Row"), (11, .class_ 82), (0, u "castkey/card/ModeObjects"), (32, u "number"), (0, u "([B)I"), (23, u "ENTRY"), (0, u "Ljava/util/List;"), (40, u "ANY_LENGTH"), (0, u "I")] 59

def k2m0 : Method := { name := "<init>", desc := "()V", sig := { parameters := [], returnType := none }, accessFlags := 2, code := none }
def k2c1 : Code := { maxStack := 3, maxLocals := 6, code := prog_16_method_5_code, exceptionTable := #[], attributes := #[] }
def k2m1 : Method := { name := "number", desc := "([B)I", sig := { parameters := [(.array .byte)], returnType := some .int }, accessFlags := 8, code := some k2c1 }
/-- castkey/card/ModeObjects -/
def k2 : Class := { plain "castkey/card/ModeObjects" (some 0) with
  accessFlags := 48
  interfaces := #[]
  cf := some (fileOf pool2 81 #[.nestMembers #[68]] #[{ accessFlags := 2, nameIndex := 5, descriptorIndex := 6, attributes := #[] }, { accessFlags := 8, nameIndex := 115, descriptorIndex := 116, attributes := #[] }] 48 2 #[] #[{ accessFlags := 24, nameIndex := 182, descriptorIndex := 183, attributes := #[] }, { accessFlags := 24, nameIndex := 140, descriptorIndex := 141, attributes := #[] }])
  fields := #[{ name := "ANY_LENGTH", type := .int, accessFlags := 24, slot := 0, constantValue := 0 }, { name := "ENTRY", type := (.object "java/util/List"), accessFlags := 24, slot := 1, constantValue := 0 }]
  methods := #[k2m0, k2m1]
  instanceTypes := #[]
  staticTypes := #[.int, (.object "java/util/List")]
  resolved := Array.replicate 243 none
  statics := none }

def pool3 : Array CpInfo := pool [(1, u "java/lang/Cloneable"), (0, .class_ 1), (0, u "java/lang/Object"), (0, .class_ 3)] 3

/-- java/lang/Cloneable -/
def k3 : Class := { plain "java/lang/Cloneable" (some 0) with
  accessFlags := 1537
  interfaces := #[]
  cf := some (fileOf pool3 2 #[] #[] 1537 4 #[] #[])
  fields := #[]
  methods := #[]
  instanceTypes := #[]
  staticTypes := #[]
  resolved := Array.replicate 8 none
  statics := none }

def pool4 : Array CpInfo := pool [(1, u "java/io/Serializable"), (0, .class_ 1), (0, u "java/lang/Object"), (0, .class_ 3)] 3

/-- java/io/Serializable -/
def k4 : Class := { plain "java/io/Serializable" (some 0) with
  accessFlags := 1537
  interfaces := #[]
  cf := some (fileOf pool4 2 #[] #[] 1537 4 #[] #[])
  fields := #[]
  methods := #[]
  instanceTypes := #[]
  staticTypes := #[]
  resolved := Array.replicate 8 none
  statics := none }

/-- the primitive byte -/
def k5 : Class := { plain "byte" none with kind := .primitive 'B', accessFlags := 0x411 }
/-- [B -/
def k6 : Class := { plain "[B" (some 0) with kind := .array 5 .byte, interfaces := #[3, 4], accessFlags := 1041 }

/-- the primitive int -/
def k7 : Class := { plain "int" none with kind := .primitive 'I', accessFlags := 0x411 }
/-- [I -/
def k8 : Class := { plain "[I" (some 0) with kind := .array 7 .int, interfaces := #[3, 4], accessFlags := 1041 }

def heap : Heap := #[]
def classes : Array Class := #[k0, k1, k2, k3, k4, k5, k6, k7, k8]
def interned : List (Array UInt16 × Addr) := []
def slotsUsed : Nat := 0
def theMethod : MethodId := ⟨1, 1⟩
def args0 : Array Value := #[.int 3, .int 3, .int 3, .int 3, .int 3]
def aboutOver (below : List Frame) : State where
  vm := { classes := classes, interned := interned.toArray }
  heap := heap
  slotsUsed := slotsUsed
  threads := #[{ frames := .invoking theMethod args0 :: below }]
def below0 : List Frame := [.native { method := ⟨0, 0⟩, args := #[] }]
def about1 : State := aboutOver below0
def p0 : Program := .bare "" "" ""
def e0 : Env := launch0.env 0 0 0
theorem w_frames : about1.frames = Frame.invoking theMethod args0 :: below0 := rfl
set_option maxRecDepth 65536 in
theorem w_args : argsFit about1.vm theMethod args0 = true := by decide +kernel
set_option maxRecDepth 65536 in
theorem w_heap : heapFits about1 = true := by decide +kernel
set_option maxRecDepth 65536 in
theorem w_runnable : about1.curStatus? = some .runnable := by decide +kernel
set_option maxRecDepth 65536 in
theorem w_alone : about1.alone = true := by decide +kernel
set_option maxRecDepth 65536 in
theorem w_named : about1.methodNamed? x = some theMethod := by decide +kernel
set_option maxRecDepth 65536 in
theorem w_hears : about1.hears theMethod below0 = true := by decide +kernel
set_option maxRecDepth 65536 in
theorem w_ripe : about1.ripe theMethod args0 below0 = true := by decide +kernel
theorem w_running : about1.status = .running := rfl
set_option maxRecDepth 65536 in
theorem w_room : about1.hasRoom e0.platform room_1 = true :=
  launch0.hasRoom_least _ room_1 (by decide +kernel) (by decide +kernel) (by decide +kernel) (by decide +kernel) (by decide +kernel) (by decide +kernel)
theorem allAtoms_all (ts : List Jvm.Cond) (a : Array Jvm.Value) (st : Jvm.State) : (allAtoms ts).before a st = ts.all (fun c => c.before a st) := by
  induction ts with
  | nil => rfl
  | cons c t ih =>
    show (Jvm.Cond.and c (allAtoms t)).before a st = _
    rw [Jvm.Cond.before_and, ih, List.all_cons]
def words1 : List Jvm.Cond := Jvm.Cond.code x code maxLocals ret :: tables_1
/-- a 'code' word, met by the world's own term for the bytes: nothing is compared byte by byte -/
theorem code_word {y : MethodName} {bytes : ByteArray} {mx : Nat} {rt : Option FieldType} {a : Array Value} {s : State} {m : MethodId} {meth : Method} {c : Code} (h1 : s.methodNamed? y = some m) (h2 : s.vm.method? m = some meth) (h3 : meth.code = some c) (h4 : c.code = bytes)
    (h5 : (c.maxLocals == mx && c.exceptionTable.isEmpty && decide (c.maxStack ≤ mostOperands) && decide (meth.sig.returnType = rt) && !meth.locks && decide (parseMethodDescriptor y.desc = some meth.sig)) = true) : (Jvm.Cond.code y bytes mx rt).before a s = true := by
  simp only [Bool.and_eq_true, beq_iff_eq, Bool.not_eq_true', decide_eq_true_eq] at h5
  obtain ⟨⟨⟨⟨⟨g1, g2⟩, g3⟩, g4⟩, g5⟩, g6⟩ := h5
  simp [Cond.before, Cond.holds, Cond.value, h1, h2, h3, h4, g1, g2, g3, g4, g5, g6]
def isCode : Jvm.Cond → Bool
  | .code _ _ _ _ => true
  | _ => false
theorem all_split {L : List Jvm.Cond} {P : Jvm.Cond → Bool} (h1 : L.all (fun c => isCode c || P c) = true) (h2 : ∀ c ∈ L.filter isCode, P c = true) : L.all P = true := by
  refine List.all_eq_true.mpr fun c hc => ?_
  have h := List.all_eq_true.mp h1 c hc
  rcases Bool.eq_false_or_eq_true (isCode c) with hi | hi
  · exact h2 c (List.mem_filter.mpr ⟨hc, hi⟩)
  · simpa [hi] using h
set_option maxRecDepth 65536 in
theorem w_c0 : (Jvm.Cond.code x code maxLocals ret).before args0 about1 = true := code_word (m := ⟨1, 1⟩) (meth := k1m1) (c := k1c1) (by decide +kernel) rfl rfl rfl (by decide +kernel)
set_option maxRecDepth 65536 in
theorem w_c1 : (Jvm.Cond.code ({ cls := "castkey/card/ModeObjects", name := "number", desc := "([B)I" } : Jvm.MethodName) prog_16_method_5_code (6 : Nat) (Option.some Jvm.ClassFile.FieldType.int)).before args0 about1 = true := code_word (m := ⟨2, 1⟩) (meth := k2m1) (c := k2c1) (by decide +kernel) rfl rfl rfl (by decide +kernel)
def codes1 : List Jvm.Cond := [Jvm.Cond.code x code maxLocals ret, Jvm.Cond.code ({ cls := "castkey/card/ModeObjects", name := "number", desc := "([B)I" } : Jvm.MethodName) prog_16_method_5_code (6 : Nat) (Option.some Jvm.ClassFile.FieldType.int)]
set_option maxRecDepth 65536 in
theorem codes_eq : words1.filter isCode = codes1 := rfl
theorem w_codes : ∀ c ∈ words1.filter isCode, c.before args0 about1 = true := by
  rw [codes_eq]
  intro c hc
  simp only [codes1, List.mem_cons, List.not_mem_nil, or_false] at hc
  rcases hc with rfl | rfl
  · exact w_c0
  · exact w_c1
set_option maxRecDepth 65536 in
theorem w_t1 : words1.all (fun c => isCode c || c.before args0 about1) = true := by decide +kernel
theorem w_tables : (allAtoms (Jvm.Cond.code x code maxLocals ret :: tables_1)).before args0 about1 = true := by
  rw [allAtoms_all]
  show words1.all (fun c => c.before args0 about1) = true
  refine all_split ?_ w_codes
  rw [w_t1]
set_option maxRecDepth 65536 in
theorem w_case : (Jvm.Cond.and given_1 narrow_1).before args0 about1 = true := by decide +kernel
theorem w_applies : (headSpec (Jvm.Cond.code x code maxLocals ret :: tables_1) room_1).applies x e0.platform about1 = true :=
  (Spec.applies_iff w_frames).mpr ⟨w_running, w_runnable, w_alone, w_named, w_hears, w_ripe, w_room, w_tables⟩
theorem atStart : AtStart classFile x code maxLocals ret World_1 tables_1 room_1 Calls_1 rest_1 Pre_1 launch0 p0 e0 about1 theMethod args0 below0 :=
  ⟨lists_1, trivial, launch0.admits_env _ _ _, launch0.least_env, fairChoices_fair.cas, fairChoices_fair.clock, w_frames, w_args, w_heap, w_applies, trivial, trivial, w_case⟩
end start1
theorem witness_1 : WitnessClaimed_1 := ⟨start1.p0, start1.e0, start1.about1, start1.theMethod, start1.args0, start1.below0, start1.atStart⟩
end Jvm.Pilot.@@N@@
