import JvmDerived
import JvmDerived.Pilot.@@N@@Statement
import JvmDerived.Pilot.@@N@@Code
set_option linter.unusedVariables false
set_option linter.unusedSimpArgs false
namespace Jvm.Pilot.@@N@@.OwnKit
open Jvm Sem ClassFile Op Lib Jvm.Stand Jvm.Free Jvm.LawKit Jvm.RoadKit
section New
variable {p : Program} {l : Launch} {e : Env} {R : Room} {s : State} {m : MethodId} {args : Array Value} {below : List Frame} {meth : Method} {c : Code} {T : State} {locs : List Loc} {cells slots : Nat}
theorem retI (X : Stand p l e R s m args below meth c T locs cells slots) (hx : p.tables.exec = Jvm.exec) {pc : Nat} {Ls : Array Slot} {z : Int32} {rest : List Value} (hret : meth.sig.returnType = some .int) (hd : decode c.code pc = .ok (.ireturn, 1)) {fs : List Frame}
    (hl : ∀ (f : JFrame) (acts : List Action), f.method = m → f.locked = none → f.entered = [] → (doReturn e (T.setTop f) acts (some (.int z))).1 = T.setFrames fs) : Steps p.tables e below (T.setTop (mkF m pc Ls (.int z :: rest))) (T.setFrames fs) :=
  retOut X hx hret rfl (Or.inl ⟨rfl, Or.inl rfl, _, rfl⟩) hd hl
theorem lremM {g : JFrame} {target : State} (X : Stand p l e R s m args below meth c T locs cells slots) (hx : p.tables.exec = Jvm.exec) (hg : g.method = m) {x y : Int64} {rest : List Value} (hd : decode c.code g.pc = .ok (.lrem, 1)) (hs : g.stack = .long y :: .long x :: rest) (hy : y ≠ 0)
    (hr : Steps p.tables e below (T.setTop { g with pc := g.pc + 1, stack := .long (x % y) :: rest }) target) : Steps p.tables e below (T.setTop g) target := by
  have q : x - x / y * y = x % y := by
    have g1 := rng64 (x % y)
    have g2 : (x % y).toInt = x.toInt.tmod y.toInt := Int64.toInt_mod x y
    have g3 := Int.tmod_def x.toInt y.toInt
    have g4 : (x / y).toInt = (x.toInt.tdiv y.toInt).bmod (2 ^ 64) := Int64.toInt_div x y
    apply Int64.toInt_inj.mp
    rw [Int64.toInt_sub, Int64.toInt_mul, g4, Int.bmod_mul_bmod, Int.sub_bmod_bmod, Int.mul_comm (x.toInt.tdiv y.toInt), ← g3, ← g2]
    exact Int.bmod_eq_of_le_mul_two (by omega) (by omega)
  exact XS.lrem X.here hx hg hd hs hy (by rw [q]; exact hr)
end New
/-- from here the run ends, and as G says -/
def Goes (tb : Tables) (e : Env) (below : List Frame) (t : State) (G : State → Outcome → Prop) : Prop := ∃ s₂ o, Steps tb e below t s₂ ∧ s₂.status = .running ∧ Ended s₂ below o ∧ G s₂ o
variable {tb : Tables} {e : Env} {below : List Frame} {t t' : State} {G : State → Outcome → Prop}
theorem Goes.by (k : ∀ u, Steps tb e below t' u → Steps tb e below t u) (h : Goes tb e below t' G) : Goes tb e below t G := by
  obtain ⟨s₂, o, h1, h2⟩ := h; exact ⟨s₂, o, k _ h1, h2⟩
theorem Goes.via (k : Steps tb e below t t') (h : Goes tb e below t' G) : Goes tb e below t G := by
  obtain ⟨s₂, o, h1, h2⟩ := h; exact ⟨s₂, o, k.trans h1, h2⟩
theorem jl_t {x y : Int64} (h : x < y) : ifCond.holds .lt (lcmpW x y) = true ∧ ifCond.holds .ge (lcmpW x y) = false := ⟨(if0 _ _).trans (tlt ((lw_lt x y).mpr h)).1, (if0 _ _).trans (tlt ((lw_lt x y).mpr h)).2.1⟩
theorem jl_f {x y : Int64} (h : ¬ x < y) : ifCond.holds .lt (lcmpW x y) = false ∧ ifCond.holds .ge (lcmpW x y) = true := ⟨(if0 _ _).trans (flt (fun q => h ((lw_lt x y).mp q))).1, (if0 _ _).trans (flt (fun q => h ((lw_lt x y).mp q))).2.1⟩
theorem jg_t {x y : Int64} (h : y < x) : ifCond.holds .gt (lcmpW x y) = true ∧ ifCond.holds .le (lcmpW x y) = false := ⟨(if0 _ _).trans (tlt ((lw_gt x y).mpr h)).2.2.1, (if0 _ _).trans (tlt ((lw_gt x y).mpr h)).2.2.2⟩
theorem jg_f {x y : Int64} (h : ¬ y < x) : ifCond.holds .gt (lcmpW x y) = false ∧ ifCond.holds .le (lcmpW x y) = true := ⟨(if0 _ _).trans (flt (fun q => h ((lw_gt x y).mp q))).2.2.1, (if0 _ _).trans (flt (fun q => h ((lw_gt x y).mp q))).2.2.2⟩
theorem je_t {x y : Int64} (h : x = y) : ifCond.holds .eq (lcmpW x y) = true ∧ ifCond.holds .ne (lcmpW x y) = false := ⟨(if0 _ _).trans (teq ((lw_eq x y).mpr h)).1, (if0 _ _).trans (teq ((lw_eq x y).mpr h)).2⟩
theorem je_f {x y : Int64} (h : ¬ x = y) : ifCond.holds .eq (lcmpW x y) = false ∧ ifCond.holds .ne (lcmpW x y) = true := ⟨(if0 _ _).trans (feq (fun q => h ((lw_eq x y).mp q))).1, (if0 _ _).trans (feq (fun q => h ((lw_eq x y).mp q))).2⟩
theorem selP {Z s : State} {a0 args : Array Value} {y : MethodName} {n : Nat} (hZ : Z.Warmed39 s.vm) (wi : (Cond.instantiable y.cls n).before a0 Z = true) (wp : (Cond.privateMethod y).before a0 Z = true) (win : (Cond.instanceMethod y).before a0 Z = true) (hy : y.cls ≠ "java/lang/invoke/MethodHandle" ∧ y.cls ≠ "java/lang/invoke/VarHandle") : (Cond.selects y.cls y y).before args s = true := by
  have w1 : (Cond.instantiable y.cls n).before args s = true := mv hZ wi
  obtain ⟨c, k, h1, h2, -, h4, -⟩ := Cond.instantiable_spec w1
  rw [Bool.or_eq_false_iff] at h4
  exact selects_self_of_private h1 h2 h4.1 (Cond.privateMethod_at (mvP hZ wp (args := args))) (mv hZ win) hy
theorem narR {t : FieldType} {w : Value} (h : t.isReference = true) : narrow t w = w := by cases t <;> first | (cases h; done) | (cases w <;> rfl)
end Jvm.Pilot.@@N@@.OwnKit
namespace Jvm.Pilot.@@N@@.OwnKit
open Jvm Sem ClassFile Op Lib Jvm.Stand Jvm.Free Jvm.LawKit Jvm.RoadKit
/-- one place of a function turned -/
def up {α : Type} (f : Nat → α) (i : Nat) (v : α) : Nat → α := fun j => if j = i then v else f j
/-- an array of n places; place j holds f j -/
def Ar (Z : State) (h : Heap) (a : Addr) (ty : FieldType) (n : Nat) (f : Nat → Value) : Prop := ∃ c : Cell, Arr Z h a c ty ∧ c.slots.size = n ∧ n < 2 ^ 31 ∧ ∀ j, j < n → c.slots[j]? = some (f j) ∧ fits ty (f j) = true
def AI (Z : State) (h : Heap) (a : Addr) (ty : FieldType) (n : Nat) (f : Nat → Int32) : Prop := Ar Z h a ty n (fun j => .int (f j))
def AJ (Z : State) (h : Heap) (a : Addr) (n : Nat) (f : Nat → Int64) : Prop := Ar Z h a .long n (fun j => .long (f j))
section Facts
variable {Z : State} {h h' : Heap} {a b : Addr} {ty : FieldType} {n sl : Nat} {f : Nat → Value} {g : Nat → Int32} {k : Nat → Int64} {v : Value} {ws : List Addr}
theorem up_at {α : Type} (f : Nat → α) (i : Nat) (v : α) : up f i v i = v := if_pos rfl
theorem up_ne {α : Type} (f : Nat → α) {i j : Nat} (v : α) (q : j ≠ i) : up f i v j = f j := if_neg q
theorem Ar.lt (A : Ar Z h a ty n f) : a < h.size := by obtain ⟨c, A, -⟩ := A; exact A.lt
theorem Ar.ext (A : Ar Z h a ty n f) (E : Ext h h') : Ar Z h' a ty n f := by obtain ⟨c, A, r⟩ := A; exact ⟨c, A.ext E, r⟩
theorem Ar.other (A : Ar Z h b ty n f) (W : Wr h h' a sl v) (q : b ≠ a) : Ar Z h' b ty n f := by obtain ⟨c, A, r⟩ := A; exact ⟨c, A.other W q, r⟩
theorem Ar.keep (A : Ar Z h a ty n f) (K : Keep h h' ws) (q : a ∉ ws) : Ar Z h' a ty n f := by obtain ⟨c, A, r⟩ := A; exact ⟨c, ⟨K.2.1 a c A.1 q, A.2⟩, r⟩
theorem own_setSlot (c : Cell) (i : Nat) (v : Value) : (c.setSlot i v).slots = c.slots.setIfInBounds i v := rfl
theorem Ar.wr (A : Ar Z h a ty n f) (W : Wr h h' a sl v) (hf : fits ty v = true) : Ar Z h' a ty n (up f sl v) := by
  obtain ⟨c, A, S, M, G⟩ := A
  refine ⟨c.setSlot sl v, A.same W, by rw [sz_set]; exact S, M, fun j hj => ?_⟩
  by_cases q : j = sl
  · subst q; rw [up_at, own_setSlot, Array.getElem?_setIfInBounds_self_of_lt (by omega)]; exact ⟨rfl, hf⟩
  · rw [up_ne f v q, own_setSlot, Array.getElem?_setIfInBounds_ne (Ne.symm q)]; exact G j hj
theorem Ar.congr {f' : Nat → Value} (A : Ar Z h a ty n f) (q : ∀ j, j < n → f j = f' j) : Ar Z h a ty n f' := by
  obtain ⟨c, A, S, M, G⟩ := A; exact ⟨c, A, S, M, fun j hj => by rw [← q j hj]; exact G j hj⟩
theorem AI.lt (A : AI Z h a ty n g) : a < h.size := Ar.lt A
theorem AI.ext (A : AI Z h a ty n g) (E : Ext h h') : AI Z h' a ty n g := Ar.ext A E
theorem AI.other (A : AI Z h b ty n g) (W : Wr h h' a sl v) (q : b ≠ a) : AI Z h' b ty n g := Ar.other A W q
theorem AI.keep (A : AI Z h a ty n g) (K : Keep h h' ws) (q : a ∉ ws) : AI Z h' a ty n g := Ar.keep A K q
theorem AI.wr {x : Int32} (A : AI Z h a ty n g) (W : Wr h h' a sl (.int x)) (hf : fits ty (.int x) = true) : AI Z h' a ty n (up g sl x) :=
  (Ar.wr A W hf).congr fun j _ => by simp only [up]; split <;> rfl
theorem AI.congr {g' : Nat → Int32} (A : AI Z h a ty n g) (q : ∀ j, j < n → g j = g' j) : AI Z h a ty n g' := Ar.congr A fun j hj => by rw [q j hj]
theorem AJ.lt (A : AJ Z h a n k) : a < h.size := Ar.lt A
theorem AJ.ext (A : AJ Z h a n k) (E : Ext h h') : AJ Z h' a n k := Ar.ext A E
theorem AJ.other (A : AJ Z h b n k) (W : Wr h h' a sl v) (q : b ≠ a) : AJ Z h' b n k := Ar.other A W q
theorem AJ.keep (A : AJ Z h a n k) (K : Keep h h' ws) (q : a ∉ ws) : AJ Z h' a n k := Ar.keep A K q
theorem AJ.wr {x : Int64} (A : AJ Z h a n k) (W : Wr h h' a sl (.long x)) : AJ Z h' a n (up k sl x) :=
  (Ar.wr A W rfl).congr fun j _ => by simp only [up]; split <;> rfl
theorem AJ.congr {k' : Nat → Int64} (A : AJ Z h a n k) (q : ∀ j, j < n → k j = k' j) : AJ Z h a n k' := Ar.congr A fun j hj => by rw [q j hj]
theorem Ar.bound (A : Ar Z h a ty n f) : n < 2 ^ 31 := by obtain ⟨c, A, S, M, G⟩ := A; exact M
theorem ixo {j : Int32} {i n : Nat} (hj : j.toInt = (i : Int)) (hi : i < n) : ¬ (j < 0 ∨ n ≤ j.toNatClampNeg) ∧ j.toNatClampNeg = i := by
  have e0 : (0 : Int32).toInt = 0 := rfl
  have q : j.toNatClampNeg = i := by rw [Int32.toNatClampNeg, hj]; rfl
  refine ⟨fun z => z.elim (fun u => ?_) fun u => ?_, q⟩
  · rw [Int32.lt_iff_toInt_lt] at u; omega
  · omega
theorem lenI {n : Nat} {z : Int32} (hz : z.toInt = (n : Int)) : n.toInt32 = z := by
  apply Int32.toInt_inj.mp
  have r := rng32 z
  rw [hz]; exact Int32.toInt_ofNat_of_lt (by omega)
theorem Ar.arv (A : Ar Z h a ty n f) : ∃ k, Arv Z h a k ty (Int32.ofNat n) ((List.range n).map f) (f 0) := by
  obtain ⟨c, A, S, M, G⟩ := A
  have e0 : (0 : Int32).toInt = 0 := rfl
  have hz : (Int32.ofNat n).toInt = (n : Int) := Int32.toInt_ofNat_of_lt (by omega)
  have hq : (Int32.ofNat n).toNatClampNeg = n := by rw [Int32.toNatClampNeg, hz]; rfl
  have hg : ∀ i, i < n → ((List.range n).map f).getD i (f 0) = f i := fun i hi => by
    rw [List.getD_eq_getElem?_getD, List.getElem?_map, List.getElem?_range hi]; rfl
  refine ⟨c.cls, c, A, rfl, by rw [hq]; exact S, by rw [Int32.lt_iff_toInt_lt, hz]; omega, fun i hi => ?_, fun i hi => ?_⟩
  · rw [hg i (by omega)]; exact (G i (by omega)).1
  · rw [hg i (by omega)]; exact (G i (by omega)).2
theorem Ar.of_arv {k : ClassId} {z : Int32} {vs : List Value} {d : Value} (A : Arv Z h a k ty z vs d) (hz : z.toInt = (n : Int)) : Ar Z h a ty n (fun j => vs.getD j d) := by
  obtain ⟨c, A, q, S, N, H, G⟩ := A
  have hq : z.toNatClampNeg = n := by rw [Int32.toNatClampNeg, hz]; rfl
  have r := rng32 z
  exact ⟨c, A, by rw [S, hq], by omega, fun j hj => ⟨H j (by omega), G j (by omega)⟩⟩
end Facts
section Steps
variable {p : Program} {l : Launch} {e : Env} {R : Room} {s : State} {m : MethodId} {args : Array Value} {below : List Frame} {meth : Method} {c : Code} {T : State} {locs : List Loc} {cells slots : Nat} {Z : State} {h : Heap} {a : Addr} {n i : Nat} {j : Int32} {rest : List Value} {fr : JFrame} {target : State}
theorem ldI {f : Nat → Int32} {v : Int32} (X : Stand p l e R s m args below meth c T locs cells slots) (hx : p.tables.exec = Jvm.exec) (hZ : Z.Warmed39 s.vm) (eT : T.heap = h) (A : AI Z h a .int n f) (hj : j.toInt = (i : Int)) (hi : i < n) (hv : v = f i) (hg : fr.method = m) (hs : fr.stack = .int j :: .ref a :: rest) (hd : decode c.code fr.pc = .ok (.iaload, 1))
    (hr : Steps p.tables e below (T.setTop { fr with pc := fr.pc + 1, stack := .int v :: rest }) target) : Steps p.tables e below (T.setTop fr) target := by
  obtain ⟨cl, A, S, M, G⟩ := A
  obtain ⟨q1, q2⟩ := ixo hj hi
  exact X.iaload hx (j := j) (v := .int v) (by rw [eT]; exact A.1) (State.isArrayOf_alike hZ.alike A.2.1) A.2.2 (by rw [S]; exact q1) (by rw [q2, hv]; exact (G i hi).1) hg hs hd _ hr
theorem ldB {f : Nat → Int32} {v : Int32} (X : Stand p l e R s m args below meth c T locs cells slots) (hx : p.tables.exec = Jvm.exec) (hZ : Z.Warmed39 s.vm) (eT : T.heap = h) (A : AI Z h a .byte n f) (hj : j.toInt = (i : Int)) (hi : i < n) (hv : v = f i) (hg : fr.method = m) (hs : fr.stack = .int j :: .ref a :: rest) (hd : decode c.code fr.pc = .ok (.baload, 1))
    (hr : Steps p.tables e below (T.setTop { fr with pc := fr.pc + 1, stack := .int v :: rest }) target) : Steps p.tables e below (T.setTop fr) target := by
  obtain ⟨cl, A, S, M, G⟩ := A
  obtain ⟨q1, q2⟩ := ixo hj hi
  exact X.baloadBytes hx (j := j) (v := .int v) (by rw [eT]; exact A.1) (State.isArrayOf_alike hZ.alike A.2.1) A.2.2 (by rw [S]; exact q1) (by rw [q2, hv]; exact (G i hi).1) hg hs hd _ hr
theorem ldJ {f : Nat → Int64} {v : Int64} (X : Stand p l e R s m args below meth c T locs cells slots) (hx : p.tables.exec = Jvm.exec) (hZ : Z.Warmed39 s.vm) (eT : T.heap = h) (A : AJ Z h a n f) (hj : j.toInt = (i : Int)) (hi : i < n) (hv : v = f i) (hg : fr.method = m) (hs : fr.stack = .int j :: .ref a :: rest) (hd : decode c.code fr.pc = .ok (.laload, 1))
    (hr : Steps p.tables e below (T.setTop { fr with pc := fr.pc + 1, stack := .long v :: rest }) target) : Steps p.tables e below (T.setTop fr) target := by
  obtain ⟨cl, A, S, M, G⟩ := A
  obtain ⟨q1, q2⟩ := ixo hj hi
  exact X.laload hx (j := j) (v := .long v) (by rw [eT]; exact A.1) (State.isArrayOf_alike hZ.alike A.2.1) A.2.2 (by rw [S]; exact q1) (by rw [q2, hv]; exact (G i hi).1) hg hs hd _ hr
theorem alen {ty : FieldType} {f : Nat → Value} {z : Int32} (X : Stand p l e R s m args below meth c T locs cells slots) (hx : p.tables.exec = Jvm.exec) (hZ : Z.Warmed39 s.vm) (eT : T.heap = h) (A : Ar Z h a ty n f) (hz : z.toInt = (n : Int)) (hg : fr.method = m) (hs : fr.stack = .ref a :: rest) (hd : decode c.code fr.pc = .ok (.arraylength, 1))
    (hr : Steps p.tables e below (T.setTop { fr with pc := fr.pc + 1, stack := .int z :: rest }) target) : Steps p.tables e below (T.setTop fr) target := by
  obtain ⟨cl, A, S, M, G⟩ := A
  exact X.arraylength hx (by rw [eT]; exact A.1) (State.isArrayOf_alike hZ.alike A.2.1) hg hs hd _ (by rw [S, lenI hz]; exact hr)
theorem stAI {f : Nat → Int32} {x : Int32} (X : Stand p l e R s m args below meth c T locs cells slots) (hx : p.tables.exec = Jvm.exec) (hZ : Z.Warmed39 s.vm) (eT : T.heap = h) (A : AI Z h a .int n f) (hj : j.toInt = (i : Int)) (hi : i < n) (hg : fr.method = m) (hs : fr.stack = .int x :: .int j :: .ref a :: rest) (hd : decode c.code fr.pc = .ok (.iastore, 1)) :
    ∃ T' h', Stand p l e R s m args below meth c T' (locs ++ [⟨a, i⟩]) cells slots ∧ T'.heap = h' ∧ Wr h h' a i (.int x) ∧ AI Z h' a .int n (up f i x) ∧ ∀ target, Steps p.tables e below (T'.setTop { fr with pc := fr.pc + 1, stack := rest }) target → Steps p.tables e below (T.setTop fr) target := by
  have A0 := A
  obtain ⟨cl, A, S, M, G⟩ := A
  obtain ⟨q1, q2⟩ := ixo hj hi
  obtain ⟨T', h', X', e', W', st⟩ := stI X hx hZ eT A (j := j) (by rw [S]; exact q1) hg hs hd
  rw [q2] at X' W'
  exact ⟨T', h', X', e', W', A0.wr W' rfl, st⟩
theorem stAB {f : Nat → Int32} {x : Int32} (X : Stand p l e R s m args below meth c T locs cells slots) (hx : p.tables.exec = Jvm.exec) (hZ : Z.Warmed39 s.vm) (eT : T.heap = h) (A : AI Z h a .byte n f) (hj : j.toInt = (i : Int)) (hi : i < n) (hg : fr.method = m) (hs : fr.stack = .int x :: .int j :: .ref a :: rest) (hd : decode c.code fr.pc = .ok (.bastore, 1)) :
    ∃ T' h', Stand p l e R s m args below meth c T' (locs ++ [⟨a, i⟩]) cells slots ∧ T'.heap = h' ∧ Wr h h' a i (.int x.toInt8.toInt32) ∧ AI Z h' a .byte n (up f i x.toInt8.toInt32) ∧ ∀ target, Steps p.tables e below (T'.setTop { fr with pc := fr.pc + 1, stack := rest }) target → Steps p.tables e below (T.setTop fr) target := by
  have A0 := A
  obtain ⟨cl, A, S, M, G⟩ := A
  obtain ⟨q1, q2⟩ := ixo hj hi
  obtain ⟨T', h', X', e', W', st⟩ := stB X hx hZ eT A (j := j) (by rw [S]; exact q1) hg hs hd
  rw [q2] at X' W'
  exact ⟨T', h', X', e', W', A0.wr W' (fits_nar_byte x), st⟩
theorem stAJ {f : Nat → Int64} {x : Int64} (X : Stand p l e R s m args below meth c T locs cells slots) (hx : p.tables.exec = Jvm.exec) (hZ : Z.Warmed39 s.vm) (eT : T.heap = h) (A : AJ Z h a n f) (hj : j.toInt = (i : Int)) (hi : i < n) (hg : fr.method = m) (hs : fr.stack = .long x :: .int j :: .ref a :: rest) (hd : decode c.code fr.pc = .ok (.lastore, 1)) :
    ∃ T' h', Stand p l e R s m args below meth c T' (locs ++ [⟨a, i⟩]) cells slots ∧ T'.heap = h' ∧ Wr h h' a i (.long x) ∧ AJ Z h' a n (up f i x) ∧ ∀ target, Steps p.tables e below (T'.setTop { fr with pc := fr.pc + 1, stack := rest }) target → Steps p.tables e below (T.setTop fr) target := by
  have A0 := A
  obtain ⟨cl, A, S, M, G⟩ := A
  obtain ⟨q1, q2⟩ := ixo hj hi
  obtain ⟨T', h', X', e', W', st⟩ := stJ X hx hZ eT A (j := j) (by rw [S]; exact q1) hg hs hd
  rw [q2] at X' W'
  exact ⟨T', h', X', e', W', A0.wr W', st⟩
theorem nwA {a0 : Array Value} {aty : ArrayType} {z : Int32} {cap : Nat} (X : Stand p l e R s m args below meth c T locs cells slots) (hx : p.tables.exec = Jvm.exec) (hZ : Z.Warmed39 s.vm) (w : (Cond.arrayClass (newarray.typeOf aty)).before a0 Z = true) (eT : T.heap = h) (hz : z.toInt = (n : Int)) (hcap : n ≤ cap) (hb : cap * 8 ≤ 536870912) (hc : cells + 1 ≤ R.cells) (hl : slots + cap ≤ R.slots) (hg : fr.method = m) (hs : fr.stack = .int z :: rest) (hd : decode c.code fr.pc = .ok (.newarray aty, 2)) :
    ∃ T' h', Stand p l e R s m args below meth c T' locs (cells + 1) (slots + cap) ∧ T'.heap = h' ∧ Ext h h' ∧ Ar Z h' h.size (newarray.typeOf aty) n (fun _ => defaultValue (newarray.typeOf aty)) ∧ ∀ target, Steps p.tables e below (T'.setTop { fr with pc := fr.pc + 2, stack := .ref h.size :: rest }) target → Steps p.tables e below (T.setTop fr) target := by
  have e0 : (0 : Int32).toInt = 0 := rfl
  have q : z.toNatClampNeg = n := by rw [Int32.toNatClampNeg, hz]; rfl
  have qn : ¬ z < 0 := by rw [Int32.lt_iff_toInt_lt]; omega
  have r := rng32 z
  obtain ⟨T', h', cA, X', e', E', A', st⟩ := newP X hx hZ w eT hg hd hs qn (cap := cap) (by omega) hb hc hl
  refine ⟨T', h', X', e', E', ⟨_, A', by rw [sz_new, q], by omega, fun i hi => ⟨?_, by cases aty <;> rfl⟩⟩, st⟩
  simp [newA, q, hi]
/-- System.arraycopy of the first k places -/
theorem cpAr {a0 : Array Value} {own : String} {index : Nat} {b : Addr} {ty : FieldType} {n1 n2 k : Nat} {f1 f2 : Nat → Value} {nn : Int32} {n0 W : Nat} (X : Stand p l e R s m args below meth c T locs cells slots) (hx : p.tables.exec = Jvm.exec) (hZ : Z.Warmed39 s.vm) (hown : s.vm.findClass own = some m.cls)
    (w1 : (Cond.methodLink own index Jvm.Stand.acN).before a0 Z = true) (w2 : (Cond.native Jvm.Stand.acN).before a0 Z = true) (w3 : (Cond.static Jvm.Stand.acN).before a0 Z = true) (w4 : (Cond.initialized "java/lang/System").before a0 Z = true) (eT : T.heap = h)
    (A : Ar Z h a ty n1 f1) (B : Ar Z h b ty n2 f2) (hty : refKind ty = false) (hk : nn.toInt = (k : Int)) (h4 : k ≤ n1) (h5 : k ≤ n2) (N : Fr n0 locs) (ge : n0 ≤ b)
    (hg : fr.method = m) (hsize : fr.locals.size = c.maxLocals) (hs : fr.stack = .int nn :: .int 0 :: .ref b :: .int 0 :: .ref a :: rest) (hd : decode c.code fr.pc = .ok (.invokestatic index, 3))
    (hf : 1 ≤ R.frames) (hW : 2 * fr.monitorRoom + (rest.map fun v => v.category).sum ≤ W) (hlo : W + (nativeFrameWords "java/lang/System" "arraycopy" 5 + 11) ≤ R.locals) :
    ∃ T' h' L, Stand p l e R s m args below meth c T' L cells slots ∧ T'.heap = h' ∧ Fr n0 L ∧ Keep h h' [b] ∧ Ar Z h' b ty n2 (fun j => if j < k then f1 j else f2 j) ∧
      ∀ target, Steps p.tables e below (T'.setTop { fr with pc := fr.pc + 3, stack := rest }) target → Steps p.tables e below (T.setTop fr) target := by
  obtain ⟨ka, A'⟩ := A.arv
  obtain ⟨kb, B'⟩ := B.arv
  have m1 := A.bound
  have m2 := B.bound
  have e0 : (0 : Int32).toInt = 0 := rfl
  have z0 : (0 : Int32).toNatClampNeg = 0 := rfl
  have hkk : nn.toNatClampNeg = k := by rw [Int32.toNatClampNeg, hk]; rfl
  have q1 : (Int32.ofNat n1).toInt = (n1 : Int) := Int32.toInt_ofNat_of_lt (by omega)
  have q2 : (Int32.ofNat n2).toInt = (n2 : Int) := Int32.toInt_ofNat_of_lt (by omega)
  have p1 : (Int32.ofNat n1).toNatClampNeg = n1 := by rw [Int32.toNatClampNeg, q1]; rfl
  have p2 : (Int32.ofNat n2).toNatClampNeg = n2 := by rw [Int32.toNatClampNeg, q2]; rfl
  obtain ⟨T', h', L', X', e', N', K', B2, st⟩ := cpA X hx hZ hown w1 w2 w3 w4 eT A' B' (Or.inl ⟨rfl, hty⟩) (sp := 0) (dp := 0) (nn := nn) (by decide) (by decide) (by rw [Int32.lt_iff_toInt_lt]; omega) (by rw [z0, hkk, p1]; omega) (by rw [z0, hkk, p2]; omega) rfl (by rw [z0, hkk, List.length_map, List.length_range]; omega) N ge hg hsize hs hd hf hW hlo
  refine ⟨T', h', L', X', e', N', K', (Ar.of_arv B2 q2).congr fun j hj => ?_, st⟩
  simp only [z0, hkk, List.take_zero, List.nil_append, Nat.zero_add, List.getD_eq_getElem?_getD]
  by_cases c1 : j < k
  · rw [if_pos c1, List.getElem?_append_left (by simpa using c1)]
    simp [c1, show j < n1 by omega]
  · rw [if_neg c1, List.getElem?_append_right (by simpa using c1)]
    simp [show k + (j - k) = j by omega, hj]
end Steps
end Jvm.Pilot.@@N@@.OwnKit
namespace Jvm.Pilot.@@N@@.OwnKit
open Jvm Sem ClassFile Op Lib Jvm.Stand Jvm.Free Jvm.LawKit Jvm.RoadKit
theorem own_isa (vm : Vm) (f : Nat) (a b : ClassId) : vm.isSubclassAux (f + 1) a b = (a == b || match vm.classes[a]? with
      | some k => match k.super with
        | some q => vm.isSubclassAux f q b
        | none => false
      | none => false) := rfl
theorem own_asg (vm : Vm) (a b : ClassId) : vm.assignable a b = (a == b || match vm.classes[a]?, vm.classes[b]? with
      | some ks, some kt =>
        match ks.kind, kt.kind with
        | .array sc _, .array tc _ =>
          if vm.isPrimitive sc || vm.isPrimitive tc then sc == tc else vm.assignableAux 255 sc tc
        | .primitive _, _ | _, .primitive _ => false
        | _, _ => if kt.isInterface then (vm.superinterfaces a).contains b else vm.isSubclassAux (vm.classes.size + 1) a b
      | _, _ => false) := rfl
section NotOf
variable {Z : State} {a0 : Array Value}
theorem own_root {O K : String} {n : Nat} (w : (Cond.noSuperclass O).before a0 Z = true) (wk : (Cond.instantiable K n).before a0 Z = true) (hn : O ≠ K) : NS Z O K := by
  obtain ⟨c, k, h1, h2, h3, -, -⟩ := Cond.noSuperclass_spec w
  obtain ⟨t, kt, g1, g2, -⟩ := Cond.instantiable_spec wk
  have ne := ids_ne h1 g1 hn
  refine ⟨c, t, h1, g1, fun fuel => ?_⟩
  cases fuel with
  | zero => rfl
  | succ f => rw [own_isa, h2]; simp [ne, h3]
theorem own_step {C S K : String} (w : (Cond.superclass C S).before a0 Z = true) (n : NS Z S K) (hn : C ≠ K) : NS Z C K := NS.step w n hn
theorem own_no {C S K : String} {nk : Nat} (w : (Cond.superclass C S).before a0 Z = true) (wk : (Cond.instantiable K nk).before a0 Z = true) (n : NS Z C K) (hn : C ≠ K) : ∃ c t, Z.vm.findClass C = some c ∧ Z.vm.findClass K = some t ∧ Z.vm.assignable c t = false := by
  obtain ⟨c, t, h0, g0, n3⟩ := n
  obtain ⟨p, k, kp, h1, h2, h3, h4, h5, -, h7⟩ := Cond.superclass_spec h0 w
  obtain ⟨t', kt, g1, g2, g3, g4, -⟩ := Cond.instantiable_spec wk
  cases g0.symm.trans g1
  have ne := ids_ne h0 g0 hn
  have g5 : kt.isInterface = false := by
    rw [Bool.or_eq_false_iff] at g4; exact g4.1
  refine ⟨c, t, h0, g0, ?_⟩
  rw [own_asg, h2, g2]
  simp [ne, h5, g3, g5, n3]
end NotOf
section Cache
variable {p : Program} {l : Launch} {e : Env} {R : Room} {s : State} {m : MethodId} {args : Array Value} {below : List Frame} {meth : Method} {c : Code} {T : State} {locs : List Loc} {cells slots : Nat} {Z : State} {h : Heap} {a : Addr} {j : Int32} {rest : List Value} {fr : JFrame}
/-- the table of old Integers: what lies at a place of it is an old Integer -/
def Cac (Z : State) (a : Addr) : Prop := ∃ cl : Cell, Arr Z Z.heap a cl (.object "java/lang/Integer") ∧ cl.slots.size = 256 ∧ ∀ i : Nat, i < 256 → ∃ b : Addr, cl.slots[i]? = some (.ref b) ∧ Exa Z Z.heap b "java/lang/Integer"
theorem ldCac {i : Nat} (X : Stand p l e R s m args below meth c T locs cells slots) (hx : p.tables.exec = Jvm.exec) (hZ : Z.Warmed39 s.vm) (eT : T.heap = h) (E : Ext Z.heap h) (A : Cac Z a) (hj : j.toInt = (i : Int)) (hi : i < 256) (hg : fr.method = m) (hs : fr.stack = .int j :: .ref a :: rest) (hd : decode c.code fr.pc = .ok (.aaload, 1)) :
    ∃ b : Addr, Exa Z h b "java/lang/Integer" ∧ ∀ target, Steps p.tables e below (T.setTop { fr with pc := fr.pc + 1, stack := .ref b :: rest }) target → Steps p.tables e below (T.setTop fr) target := by
  obtain ⟨cl, A, S, G⟩ := A
  obtain ⟨b, gb, Eb⟩ := G i hi
  obtain ⟨q1, q2⟩ := ixo hj hi
  exact ⟨b, Eb.ext E, fun target hr => X.aaload hx (j := j) (v := .ref b) (by rw [eT]; exact (A.ext E).1) (State.isArrayOf_alike hZ.alike A.2.1) rfl A.2.2 (by rw [S]; exact q1) (by rw [q2]; exact gb) hg hs hd _ hr⟩
end Cache
end Jvm.Pilot.@@N@@.OwnKit
namespace Jvm.Pilot.@@N@@.OwnKit
open Jvm Sem ClassFile Op Lib Jvm.Stand Jvm.Free Jvm.LawKit Jvm.RoadKit
theorem own_lenE (t : Term) (args : Array Value) (first s : State) (o : Option Outcome) (idx : List Nat) : (Term.length t).eval args first o idx s = ((t.eval args first o idx s).bind fun v => match v with | .ref a => ((s.arrayAt? a).bind fun c => if c.slots.size < 2 ^ 31 then some (.int c.slots.size.toInt32) else none) | _ => none) := rfl
theorem own_small {t : Term} {args : Array Value} {s : State} {a : Addr} {c : Cell} {v : Value} (ht : t.eval args s none [] s = some (.ref a)) (ha : s.arrayAt? a = some c) (h : (Term.length t).eval args s none [] s = some v) : c.slots.size < 2 ^ 31 ∧ v = .int c.slots.size.toInt32 := by
  rw [own_lenE, ht, Option.bind_some] at h
  dsimp only at h
  rw [ha, Option.bind_some] at h
  by_cases q : c.slots.size < 2 ^ 31
  · rw [if_pos q] at h; exact ⟨q, (Option.some.inj h).symm⟩
  · rw [if_neg q] at h; cases h
theorem own_cac {Z : State} {args : Array Value} {C n d : String} {a : Addr} {cl : Cell} {q : Cond} (et : (Term.static C n d).eval args Z none [] Z = some (.ref a)) (A : Arr Z Z.heap a cl (.object "java/lang/Integer"))
    (hl : (Cond.eq (.length (.static C n d)) (.int 256)).value args Z none Z [] = some true)
    (ha : (Cond.all (.static C n d) (.and (.exactly (.elem (.static C n d) (.index 0)) "java/lang/Integer") q)).value args Z none Z [] = some true) : Cac Z a := by
  have et' : ∀ idx, (Term.static C n d).eval args Z none idx Z = some (.ref a) := fun idx => et
  have hA := A.fin (Vm.Alike.refl _)
  have hs : cl.slots.size = 256 := by
    obtain ⟨e3, e4⟩ := own_small et hA (eqv_i (Term.int_eval (256)) hl)
    have e5 := Value.int.inj e4
    have e6 := len_toInt e3
    rw [← e5] at e6
    have e7 : (256 : Int32).toInt = 256 := rfl
    omega
  refine ⟨cl, A, hs, fun i hi => ?_⟩
  have hj : ((Int32.ofNat i).toInt) = (i : Int) := Int32.toInt_ofNat_of_lt (by omega)
  obtain ⟨q1, q2⟩ := ixo hj (n := 256) hi
  obtain ⟨u1, u2⟩ := and_e (Cond.all_elim (et' []) hA ha i (by omega))
  obtain ⟨box, eb⟩ := exa_v u1
  have nn : ¬ (Int32.ofNat i) < 0 := fun x => q1 (Or.inl x)
  have h1 := elem_f (et' [i]) (idx_at (args := args) (s := Z) (first := Z) (o := none) nn |> fun z => by rw [q2] at z; exact z) hA nn
  rw [q2] at h1
  exact ⟨box, h1.symm.trans eb, exa_at eb u1⟩
end Jvm.Pilot.@@N@@.OwnKit
namespace Jvm.Pilot.@@N@@
open Jvm Jvm.ClassFile Sem Op Lib Jvm.Free Jvm.Stand Jvm.LawKit Jvm.RoadKit Bundle Jvm.Pilot.@@N@@.Jvm.D Jvm.Pilot.@@N@@.OwnKit
theorem d2_0 : decode jdk_30_method_1_code 0 = .ok (.aload_n 0, 1) := by decide +kernel
theorem d2_1 : decode jdk_30_method_1_code 1 = .ok (.invokespecial 1, 3) := by decide +kernel
theorem d2_4 : decode jdk_30_method_1_code 4 = .ok (.return_, 1) := by decide +kernel
theorem pn_0 : plainName "java/lang/Record" = true := by first | (simp [plainName, overriddenIn]; done) | decide +kernel
theorem ef2 (m : MethodId) (oa : Addr) : entryFrame m #[(.ref oa)] 1 = mkF m 0 #[.val (.ref oa)] [] := by first | (simp [entryFrame, mkF, argsToLocals, Value.category]; done) | rfl
def Q2 (Z : State) (oa : Addr) (h0 : Heap) (n0 : Nat) (v : Option Value) (h : Heap) (L : List Loc) : Prop := v = none ∧ Fr n0 L ∧ h = h0
set_option maxRecDepth 65536 in
set_option maxHeartbeats 40000000 in
theorem rm2 (l : Launch) (Z : State) (a0 : Array Value) (hw : ∀ d ∈ tables_1, d.before a0 Z = true) (ws : List Jvm.Cond) (oa : Addr) (h0 : Heap) (n0 : Nat) (Z0 : n0 ≤ h0.size) :
    MetFree l (⟨"java/lang/Record", "<init>", "()V"⟩ : MethodName) (head1 (Jvm.Cond.code (⟨"java/lang/Record", "<init>", "()V"⟩ : MethodName) jdk_30_method_1_code 1 none :: ws) ({ frames := 1, cells := 0, slots := 0, locals := 12 } : Room)) (fun a U => a = #[(.ref oa)] ∧ Z.Warmed39 U.vm ∧ U.heap = h0) (fun _ _ _ _ _ => True) (fun _ U o U' => ∃ v L, o = .returned v ∧ Q2 Z oa h0 n0 v U'.heap L ∧ FrameEnd U o U' L ({ frames := 1, cells := 0, slots := 0, locals := 12 } : Room).cells ({ frames := 1, cells := 0, slots := 0, locals := 12 } : Room).slots) := by
  refine MetFree.of_bodySF (plainFor_of_name pn_0) hisR ?_
  intro p e s m args below meth c s₁ Bd hml0 hP hK
  obtain ⟨rfl, hZ, hh⟩ := hP
  have hx := Bd.exec
  have hby := Bd.bytes
  have hml : c.maxLocals = 1 := hml0
  have hown : s.vm.findClass "java/lang/Record" = some m.cls := findClass_of_methodNamed Bd.named
  have hnm := (name_of_methodNamed Bd.named Bd.method).1
  have X0 : Stand p l e ({ frames := 1, cells := 0, slots := 0, locals := 12 } : Room) s m #[(.ref oa)] below meth c s₁ [] 0 0 := Stand.of_body Bd
  have e0 : s₁.heap = h0 := by rw [← hh, Bd.state]; rfl
  have N0 := Fr.nil n0
  refine Goes.by (fun _ k => castTop (ef2 m oa) k) ?_
  show Goes p.tables e below (s₁.setTop (mkF m 0 #[.val (.ref oa)] [])) _
  refine Goes.by (fun _ k => XS.aloadN X0.here hx rfl (hb hby d2_0) rfl rfl k) ?_
  show Goes p.tables e below (s₁.setTop (mkF m 1 #[.val (.ref oa)] [(.ref oa)])) _
  obtain ⟨T1, X1, e1, st1⟩ := initO X0 hx hZ hown (hw _ (List.mem_of_getElem? (i := 11) rfl)) (hw _ (List.mem_of_getElem? (i := 12) rfl)) (hw _ (List.mem_of_getElem? (i := 13) rfl)) e0 (g := (mkF m 1 #[.val (.ref oa)] [(.ref oa)])) rfl (by rw [hml]; rfl) rfl (hb hby d2_1) (by decide) (W := 0) (by show 2 * 0 + _ ≤ _; exact Nat.le_of_eq rfl) (by decide)
  refine Goes.by st1 ?_
  show Goes p.tables e below (T1.setTop (mkF m 4 #[.val (.ref oa)] [])) _
  obtain ⟨fs, hr, hrun, hended, hW, hsame⟩ := X1.leave (v := none) (fun _ => rfl)
  refine ⟨_, _, X1.returnOut hx Bd.returns (hb hby d2_4) hr, hrun, hended, _, _, rfl, ?_, ⟨_, rfl⟩, hW, hsame.mono (by decide) (by decide)⟩
  show Q2 Z oa h0 n0 _ T1.heap _
  rw [e1]
  exact ⟨rfl, N0, rfl⟩
theorem d1_0 : decode prog_21_method_1_code 0 = .ok (.aload_n 0, 1) := by decide +kernel
theorem d1_1 : decode prog_21_method_1_code 1 = .ok (.invokespecial 1, 3) := by decide +kernel
theorem pd_0 : parseMethodDescriptor "()V" = some ⟨[], none⟩ := by decide +kernel
theorem d1_4 : decode prog_21_method_1_code 4 = .ok (.aload_n 0, 1) := by decide +kernel
theorem d1_5 : decode prog_21_method_1_code 5 = .ok (.iload_n 1, 1) := by decide +kernel
theorem d1_6 : decode prog_21_method_1_code 6 = .ok (.putfield 7, 3) := by decide +kernel
theorem d1_9 : decode prog_21_method_1_code 9 = .ok (.aload_n 0, 1) := by decide +kernel
theorem d1_10 : decode prog_21_method_1_code 10 = .ok (.iload_n 2, 1) := by decide +kernel
theorem d1_11 : decode prog_21_method_1_code 11 = .ok (.putfield 13, 3) := by decide +kernel
theorem d1_14 : decode prog_21_method_1_code 14 = .ok (.aload_n 0, 1) := by decide +kernel
theorem d1_15 : decode prog_21_method_1_code 15 = .ok (.iload_n 3, 1) := by decide +kernel
theorem d1_16 : decode prog_21_method_1_code 16 = .ok (.putfield 16, 3) := by decide +kernel
theorem d1_19 : decode prog_21_method_1_code 19 = .ok (.return_, 1) := by decide +kernel
theorem pn_1 : plainName "com/example/treewrite/treewrite/document/Identifier" = true := by first | (simp [plainName, overriddenIn]; done) | decide +kernel
theorem ef1 (m : MethodId) (oa : Addr) (ps : Int32) (pe : Int32) (pd : Int32) : entryFrame m #[(.ref oa), (.int ps), (.int pe), (.int pd)] 4 = mkF m 0 #[.val (.ref oa), .val (.int ps), .val (.int pe), .val (.int pd)] [] := by first | (simp [entryFrame, mkF, argsToLocals, Value.category]; done) | rfl
def Q1 (Z : State) (oa : Addr) (ps : Int32) (pe : Int32) (pd : Int32) (h0 : Heap) (n0 : Nat) (v : Option Value) (h : Heap) (L : List Loc) : Prop := v = none ∧ Fr n0 L ∧ Keep h0 h [oa] ∧ Exa Z h oa "com/example/treewrite/treewrite/document/Identifier" ∧ Fld Z h oa "com/example/treewrite/treewrite/document/Identifier" "start" "I" (.int ps) ∧ Fld Z h oa "com/example/treewrite/treewrite/document/Identifier" "end" "I" (.int pe) ∧ Fld Z h oa "com/example/treewrite/treewrite/document/Identifier" "depth" "I" (.int pd)
set_option maxRecDepth 65536 in
set_option maxHeartbeats 40000000 in
theorem rm1 (l : Launch) (Z : State) (a0 : Array Value) (hw : ∀ d ∈ tables_1, d.before a0 Z = true) (ws : List Jvm.Cond) (oa : Addr) (ps : Int32) (pe : Int32) (pd : Int32) (h0 : Heap) (n0 : Nat) (Z0 : n0 ≤ h0.size) (E_oa : Exa Z h0 oa "com/example/treewrite/treewrite/document/Identifier") (F_oa_start : Fld Z h0 oa "com/example/treewrite/treewrite/document/Identifier" "start" "I" (.int (0 : Int32))) (F_oa_end : Fld Z h0 oa "com/example/treewrite/treewrite/document/Identifier" "end" "I" (.int (0 : Int32))) (F_oa_depth : Fld Z h0 oa "com/example/treewrite/treewrite/document/Identifier" "depth" "I" (.int (0 : Int32))) (g_oa : n0 ≤ oa) :
    MetFree l (⟨"com/example/treewrite/treewrite/document/Identifier", "<init>", "(III)V"⟩ : MethodName) (head1 (Jvm.Cond.code (⟨"com/example/treewrite/treewrite/document/Identifier", "<init>", "(III)V"⟩ : MethodName) prog_21_method_1_code 4 none :: ws) ({ frames := 2, cells := 0, slots := 0, locals := 24 } : Room)) (fun a U => a = #[(.ref oa), (.int ps), (.int pe), (.int pd)] ∧ Z.Warmed39 U.vm ∧ U.heap = h0) (fun _ _ _ _ _ => True) (fun _ U o U' => ∃ v L, o = .returned v ∧ Q1 Z oa ps pe pd h0 n0 v U'.heap L ∧ FrameEnd U o U' L ({ frames := 2, cells := 0, slots := 0, locals := 24 } : Room).cells ({ frames := 2, cells := 0, slots := 0, locals := 24 } : Room).slots) := by
  refine MetFree.of_bodySF (plainFor_of_name pn_1) hisR ?_
  intro p e s m args below meth c s₁ Bd hml0 hP hK
  obtain ⟨rfl, hZ, hh⟩ := hP
  have hx := Bd.exec
  have hby := Bd.bytes
  have hml : c.maxLocals = 4 := hml0
  have hown : s.vm.findClass "com/example/treewrite/treewrite/document/Identifier" = some m.cls := findClass_of_methodNamed Bd.named
  have hnm := (name_of_methodNamed Bd.named Bd.method).1
  have X0 : Stand p l e ({ frames := 2, cells := 0, slots := 0, locals := 24 } : Room) s m #[(.ref oa), (.int ps), (.int pe), (.int pd)] below meth c s₁ [] 0 0 := Stand.of_body Bd
  have e0 : s₁.heap = h0 := by rw [← hh, Bd.state]; rfl
  have N0 := Fr.nil n0
  refine Goes.by (fun _ k => castTop (ef1 m oa ps pe pd) k) ?_
  show Goes p.tables e below (s₁.setTop (mkF m 0 #[.val (.ref oa), .val (.int ps), .val (.int pe), .val (.int pd)] [])) _
  refine Goes.by (fun _ k => XS.aloadN X0.here hx rfl (hb hby d1_0) rfl rfl k) ?_
  show Goes p.tables e below (s₁.setTop (mkF m 1 #[.val (.ref oa), .val (.int ps), .val (.int pe), .val (.int pd)] [(.ref oa)])) _
  obtain ⟨_, _, ⟨T1, L1, k1, n1⟩, -, X1, ⟨Lc1, hQ1, l1, y1, z1⟩, st1⟩ := X0.specialBack hx (y := (⟨"java/lang/Record", "<init>", "()V"⟩ : MethodName)) rfl hown (mvT hZ (hw _ (List.mem_of_getElem? (i := 6) rfl))) (mvT hZ (hw _ (List.mem_of_getElem? (i := 7) rfl))) (mvT hZ (hw _ (List.mem_of_getElem? (i := 10) rfl))) (by decide) (backOf (W := 0) (rm2 l Z a0 hw [] oa h0 n0 Z0) hZ (hw _ (List.mem_of_getElem? (i := 10) rfl)) (hw _ (List.mem_of_getElem? (i := 9) rfl)) (by decide) (by decide)) (g := (mkF m 1 #[.val (.ref oa), .val (.int ps), .val (.int pe), .val (.int pd)] [(.ref oa)])) rfl (by rw [hml]; rfl) (Steps.refl _) (a := oa) (argsL := []) (rest := []) (lenOf pd_0 rfl) rfl (by show 2 * 0 + _ ≤ _; exact Nat.le_of_eq rfl) (hb hby d1_1) (fun _ _ => ⟨rfl, e0, (by decide : 0 + 0 ≤ _), (by decide : 0 + 0 ≤ _)⟩)
  dsimp only [Pt.U, Pt.locs, Pt.cells, Pt.slots] at X1 l1 y1 z1 st1 hQ1
  subst l1 y1 z1
  obtain ⟨rfl, N1q, e1⟩ := hQ1
  have N1 := Fr.app N0 N1q
  refine Goes.via st1 ?_
  show Goes p.tables e below (T1.setTop (mkF m 4 #[.val (.ref oa), .val (.int ps), .val (.int pe), .val (.int pd)] [])) _
  refine Goes.by (fun _ k => XS.aloadN X1.here hx rfl (hb hby d1_4) rfl rfl k) ?_
  show Goes p.tables e below (T1.setTop (mkF m 5 #[.val (.ref oa), .val (.int ps), .val (.int pe), .val (.int pd)] [(.ref oa)])) _
  refine Goes.by (fun _ k => XS.iloadN X1.here hx rfl (hb hby d1_5) rfl k) ?_
  show Goes p.tables e below (T1.setTop (mkF m 6 #[.val (.ref oa), .val (.int ps), .val (.int pe), .val (.int pd)] [(.int ps), (.ref oa)])) _
  obtain ⟨T2, h2, X2, e2, W2, st2⟩ := putF X1 hx hZ hown (host := "") (Or.inl (hw _ (List.mem_of_getElem? (i := 14) rfl))) Via.refl e1 F_oa_start E_oa (Or.inr ⟨(hw _ (List.mem_of_getElem? (i := 15) rfl)), rfl, hnm⟩) (hw _ (List.mem_of_getElem? (i := 1) rfl)) (ty := .int) (by decide) rfl rfl (g := (mkF m 6 #[.val (.ref oa), .val (.int ps), .val (.int pe), .val (.int pd)] [(.int ps), (.ref oa)])) rfl rfl (hb hby d1_6)
  refine Goes.by st2 ?_
  have F_oa_start : Fld Z h2 oa "com/example/treewrite/treewrite/document/Identifier" "start" "I" (.int ps) := F_oa_start.same W2
  have N2 := Fr.snoc X2 N1 g_oa
  have Zs2 : n0 ≤ h2.size := Nat.le_trans Z0 (Keep.of_wr W2).1
  have K2 : Keep h0 h2 [oa] := (Keep.refl h0 [oa]).wr W2 (Or.inl (List.mem_of_getElem? (i := 0) rfl))
  have E_oa : Exa Z h2 oa "com/example/treewrite/treewrite/document/Identifier" := E_oa.wr W2
  have F_oa_end : Fld Z h2 oa "com/example/treewrite/treewrite/document/Identifier" "end" "I" (.int (0 : Int32)) := F_oa_end.other W2 (Or.inr (slot_ne (Or.inr (hw _ (List.mem_of_getElem? (i := 17) rfl))) (Or.inr (hw _ (List.mem_of_getElem? (i := 15) rfl))) (by decide) (t := .int) (t' := .int) (by decide) (by decide)))
  have F_oa_depth : Fld Z h2 oa "com/example/treewrite/treewrite/document/Identifier" "depth" "I" (.int (0 : Int32)) := F_oa_depth.other W2 (Or.inr (slot_ne (Or.inr (hw _ (List.mem_of_getElem? (i := 19) rfl))) (Or.inr (hw _ (List.mem_of_getElem? (i := 15) rfl))) (by decide) (t := .int) (t' := .int) (by decide) (by decide)))
  show Goes p.tables e below (T2.setTop (mkF m 9 #[.val (.ref oa), .val (.int ps), .val (.int pe), .val (.int pd)] [])) _
  refine Goes.by (fun _ k => XS.aloadN X2.here hx rfl (hb hby d1_9) rfl rfl k) ?_
  show Goes p.tables e below (T2.setTop (mkF m 10 #[.val (.ref oa), .val (.int ps), .val (.int pe), .val (.int pd)] [(.ref oa)])) _
  refine Goes.by (fun _ k => XS.iloadN X2.here hx rfl (hb hby d1_10) rfl k) ?_
  show Goes p.tables e below (T2.setTop (mkF m 11 #[.val (.ref oa), .val (.int ps), .val (.int pe), .val (.int pd)] [(.int pe), (.ref oa)])) _
  obtain ⟨T3, h3, X3, e3, W3, st3⟩ := putF X2 hx hZ hown (host := "") (Or.inl (hw _ (List.mem_of_getElem? (i := 16) rfl))) Via.refl e2 F_oa_end E_oa (Or.inr ⟨(hw _ (List.mem_of_getElem? (i := 17) rfl)), rfl, hnm⟩) (hw _ (List.mem_of_getElem? (i := 1) rfl)) (ty := .int) (by decide) rfl rfl (g := (mkF m 11 #[.val (.ref oa), .val (.int ps), .val (.int pe), .val (.int pd)] [(.int pe), (.ref oa)])) rfl rfl (hb hby d1_11)
  refine Goes.by st3 ?_
  have F_oa_end : Fld Z h3 oa "com/example/treewrite/treewrite/document/Identifier" "end" "I" (.int pe) := F_oa_end.same W3
  have N3 := Fr.snoc X3 N2 g_oa
  have Zs3 : n0 ≤ h3.size := Nat.le_trans Zs2 (Keep.of_wr W3).1
  have K3 : Keep h0 h3 [oa] := K2.wr W3 (Or.inl (List.mem_of_getElem? (i := 0) rfl))
  have E_oa : Exa Z h3 oa "com/example/treewrite/treewrite/document/Identifier" := E_oa.wr W3
  have F_oa_start : Fld Z h3 oa "com/example/treewrite/treewrite/document/Identifier" "start" "I" (.int ps) := F_oa_start.other W3 (Or.inr (slot_ne (Or.inr (hw _ (List.mem_of_getElem? (i := 15) rfl))) (Or.inr (hw _ (List.mem_of_getElem? (i := 17) rfl))) (by decide) (t := .int) (t' := .int) (by decide) (by decide)))
  have F_oa_depth : Fld Z h3 oa "com/example/treewrite/treewrite/document/Identifier" "depth" "I" (.int (0 : Int32)) := F_oa_depth.other W3 (Or.inr (slot_ne (Or.inr (hw _ (List.mem_of_getElem? (i := 19) rfl))) (Or.inr (hw _ (List.mem_of_getElem? (i := 17) rfl))) (by decide) (t := .int) (t' := .int) (by decide) (by decide)))
  show Goes p.tables e below (T3.setTop (mkF m 14 #[.val (.ref oa), .val (.int ps), .val (.int pe), .val (.int pd)] [])) _
  refine Goes.by (fun _ k => XS.aloadN X3.here hx rfl (hb hby d1_14) rfl rfl k) ?_
  show Goes p.tables e below (T3.setTop (mkF m 15 #[.val (.ref oa), .val (.int ps), .val (.int pe), .val (.int pd)] [(.ref oa)])) _
  refine Goes.by (fun _ k => XS.iloadN X3.here hx rfl (hb hby d1_15) rfl k) ?_
  show Goes p.tables e below (T3.setTop (mkF m 16 #[.val (.ref oa), .val (.int ps), .val (.int pe), .val (.int pd)] [(.int pd), (.ref oa)])) _
  obtain ⟨T4, h4, X4, e4, W4, st4⟩ := putF X3 hx hZ hown (host := "") (Or.inl (hw _ (List.mem_of_getElem? (i := 18) rfl))) Via.refl e3 F_oa_depth E_oa (Or.inr ⟨(hw _ (List.mem_of_getElem? (i := 19) rfl)), rfl, hnm⟩) (hw _ (List.mem_of_getElem? (i := 1) rfl)) (ty := .int) (by decide) rfl rfl (g := (mkF m 16 #[.val (.ref oa), .val (.int ps), .val (.int pe), .val (.int pd)] [(.int pd), (.ref oa)])) rfl rfl (hb hby d1_16)
  refine Goes.by st4 ?_
  have F_oa_depth : Fld Z h4 oa "com/example/treewrite/treewrite/document/Identifier" "depth" "I" (.int pd) := F_oa_depth.same W4
  have N4 := Fr.snoc X4 N3 g_oa
  have Zs4 : n0 ≤ h4.size := Nat.le_trans Zs3 (Keep.of_wr W4).1
  have K4 : Keep h0 h4 [oa] := K3.wr W4 (Or.inl (List.mem_of_getElem? (i := 0) rfl))
  have E_oa : Exa Z h4 oa "com/example/treewrite/treewrite/document/Identifier" := E_oa.wr W4
  have F_oa_start : Fld Z h4 oa "com/example/treewrite/treewrite/document/Identifier" "start" "I" (.int ps) := F_oa_start.other W4 (Or.inr (slot_ne (Or.inr (hw _ (List.mem_of_getElem? (i := 15) rfl))) (Or.inr (hw _ (List.mem_of_getElem? (i := 19) rfl))) (by decide) (t := .int) (t' := .int) (by decide) (by decide)))
  have F_oa_end : Fld Z h4 oa "com/example/treewrite/treewrite/document/Identifier" "end" "I" (.int pe) := F_oa_end.other W4 (Or.inr (slot_ne (Or.inr (hw _ (List.mem_of_getElem? (i := 17) rfl))) (Or.inr (hw _ (List.mem_of_getElem? (i := 19) rfl))) (by decide) (t := .int) (t' := .int) (by decide) (by decide)))
  show Goes p.tables e below (T4.setTop (mkF m 19 #[.val (.ref oa), .val (.int ps), .val (.int pe), .val (.int pd)] [])) _
  obtain ⟨fs, hr, hrun, hended, hW, hsame⟩ := X4.leave (v := none) (fun _ => rfl)
  refine ⟨_, _, X4.returnOut hx Bd.returns (hb hby d1_19) hr, hrun, hended, _, _, rfl, ?_, ⟨_, rfl⟩, hW, hsame.mono (by decide) (by decide)⟩
  show Q1 Z oa ps pe pd h0 n0 _ T4.heap _
  rw [e4]
  exact ⟨rfl, N4, K4, E_oa, F_oa_start, F_oa_end, F_oa_depth⟩
theorem d4_0 : decode prog_21_method_7_code 0 = .ok (.aload_n 1, 1) := by decide +kernel
theorem d4_1 : decode prog_21_method_7_code 1 = .ok (.instanceof 8, 3) := by decide +kernel
theorem d4_4 : decode prog_21_method_7_code 4 = .ok (.ifCond .eq 45, 3) := by decide +kernel
theorem d4_7 : decode prog_21_method_7_code 7 = .ok (.aload_n 1, 1) := by decide +kernel
theorem d4_8 : decode prog_21_method_7_code 8 = .ok (.checkcast 8, 3) := by decide +kernel
theorem d4_11 : decode prog_21_method_7_code 11 = .ok (.astore_n 2, 1) := by decide +kernel
theorem d4_12 : decode prog_21_method_7_code 12 = .ok (.aload_n 0, 1) := by decide +kernel
theorem d4_13 : decode prog_21_method_7_code 13 = .ok (.getfield 7, 3) := by decide +kernel
theorem d4_16 : decode prog_21_method_7_code 16 = .ok (.aload_n 2, 1) := by decide +kernel
theorem d4_17 : decode prog_21_method_7_code 17 = .ok (.getfield 7, 3) := by decide +kernel
theorem d4_20 : decode prog_21_method_7_code 20 = .ok (.if_icmp .ne 29, 3) := by decide +kernel
theorem d4_23 : decode prog_21_method_7_code 23 = .ok (.aload_n 0, 1) := by decide +kernel
theorem d4_24 : decode prog_21_method_7_code 24 = .ok (.getfield 13, 3) := by decide +kernel
theorem d4_27 : decode prog_21_method_7_code 27 = .ok (.aload_n 2, 1) := by decide +kernel
theorem d4_28 : decode prog_21_method_7_code 28 = .ok (.getfield 13, 3) := by decide +kernel
theorem d4_31 : decode prog_21_method_7_code 31 = .ok (.if_icmp .ne 18, 3) := by decide +kernel
theorem d4_34 : decode prog_21_method_7_code 34 = .ok (.aload_n 0, 1) := by decide +kernel
theorem d4_35 : decode prog_21_method_7_code 35 = .ok (.getfield 16, 3) := by decide +kernel
theorem d4_38 : decode prog_21_method_7_code 38 = .ok (.aload_n 2, 1) := by decide +kernel
theorem d4_39 : decode prog_21_method_7_code 39 = .ok (.getfield 16, 3) := by decide +kernel
theorem d4_42 : decode prog_21_method_7_code 42 = .ok (.if_icmp .ne 7, 3) := by decide +kernel
theorem d4_45 : decode prog_21_method_7_code 45 = .ok (.iconst 1, 1) := by decide +kernel
theorem d4_46 : decode prog_21_method_7_code 46 = .ok (.goto 4, 3) := by decide +kernel
theorem d4_50 : decode prog_21_method_7_code 50 = .ok (.ireturn, 1) := by decide +kernel
theorem d4_49 : decode prog_21_method_7_code 49 = .ok (.iconst 0, 1) := by decide +kernel
def fn4 (ua0 : Int32) (ua1 : Int32) (ua2 : Int32) (ub0 : Int32) (ub1 : Int32) (ub2 : Int32) : Int32 := (if ua0 = ub0 then (if ua1 = ub1 then (if ua2 = ub2 then (1 : Int32) else (0 : Int32)) else (0 : Int32)) else (0 : Int32))
theorem ef4 (m : MethodId) (oa : Addr) (ob : Addr) : entryFrame m #[(.ref oa), (.ref ob)] 3 = mkF m 0 #[.val (.ref oa), .val (.ref ob), .unset] [] := by first | (simp [entryFrame, mkF, argsToLocals, Value.category]; done) | rfl
def Q4 (Z : State) (oa : Addr) (ob : Addr) (ua0 : Int32) (ua1 : Int32) (ua2 : Int32) (ub0 : Int32) (ub1 : Int32) (ub2 : Int32) (h0 : Heap) (n0 : Nat) (v : Option Value) (h : Heap) (L : List Loc) : Prop := v = some (.int (fn4 ua0 ua1 ua2 ub0 ub1 ub2)) ∧ Fr n0 L ∧ h = h0
set_option maxRecDepth 65536 in
set_option maxHeartbeats 40000000 in
theorem rm4 (l : Launch) (Z : State) (a0 : Array Value) (hw : ∀ d ∈ tables_1, d.before a0 Z = true) (ws : List Jvm.Cond) (oa : Addr) (ob : Addr) (ua0 : Int32) (ua1 : Int32) (ua2 : Int32) (ub0 : Int32) (ub1 : Int32) (ub2 : Int32) (h0 : Heap) (n0 : Nat) (Z0 : n0 ≤ h0.size) (F_oa_start : Fld Z h0 oa "com/example/treewrite/treewrite/document/Identifier" "start" "I" (.int ua0)) (F_oa_end : Fld Z h0 oa "com/example/treewrite/treewrite/document/Identifier" "end" "I" (.int ua1)) (F_oa_depth : Fld Z h0 oa "com/example/treewrite/treewrite/document/Identifier" "depth" "I" (.int ua2)) (F_ob_start : Fld Z h0 ob "com/example/treewrite/treewrite/document/Identifier" "start" "I" (.int ub0)) (F_ob_end : Fld Z h0 ob "com/example/treewrite/treewrite/document/Identifier" "end" "I" (.int ub1)) (F_ob_depth : Fld Z h0 ob "com/example/treewrite/treewrite/document/Identifier" "depth" "I" (.int ub2)) (E_ob : Exa Z h0 ob "com/example/treewrite/treewrite/document/Identifier") :
    MetFree l (⟨"com/example/treewrite/treewrite/document/Identifier", "equals", "(Ljava/lang/Object;)Z"⟩ : MethodName) (head1 (Jvm.Cond.code (⟨"com/example/treewrite/treewrite/document/Identifier", "equals", "(Ljava/lang/Object;)Z"⟩ : MethodName) prog_21_method_7_code 3 (some .boolean) :: ws) ({ frames := 0, cells := 0, slots := 0, locals := 0 } : Room)) (fun a U => a = #[(.ref oa), (.ref ob)] ∧ Z.Warmed39 U.vm ∧ U.heap = h0) (fun _ _ _ _ _ => True) (fun _ U o U' => ∃ v L, o = .returned v ∧ Q4 Z oa ob ua0 ua1 ua2 ub0 ub1 ub2 h0 n0 v U'.heap L ∧ FrameEnd U o U' L ({ frames := 0, cells := 0, slots := 0, locals := 0 } : Room).cells ({ frames := 0, cells := 0, slots := 0, locals := 0 } : Room).slots) := by
  refine MetFree.of_bodySF (plainFor_of_name pn_1) hisR ?_
  intro p e s m args below meth c s₁ Bd hml0 hP hK
  obtain ⟨rfl, hZ, hh⟩ := hP
  have hx := Bd.exec
  have hby := Bd.bytes
  have hml : c.maxLocals = 3 := hml0
  have hown : s.vm.findClass "com/example/treewrite/treewrite/document/Identifier" = some m.cls := findClass_of_methodNamed Bd.named
  have hnm := (name_of_methodNamed Bd.named Bd.method).1
  have X0 : Stand p l e ({ frames := 0, cells := 0, slots := 0, locals := 0 } : Room) s m #[(.ref oa), (.ref ob)] below meth c s₁ [] 0 0 := Stand.of_body Bd
  have e0 : s₁.heap = h0 := by rw [← hh, Bd.state]; rfl
  have N0 := Fr.nil n0
  refine Goes.by (fun _ k => castTop (ef4 m oa ob) k) ?_
  show Goes p.tables e below (s₁.setTop (mkF m 0 #[.val (.ref oa), .val (.ref ob), .unset] [])) _
  refine Goes.by (fun _ k => XS.aloadN X0.here hx rfl (hb hby d4_0) rfl rfl k) ?_
  show Goes p.tables e below (s₁.setTop (mkF m 1 #[.val (.ref oa), .val (.ref ob), .unset] [(.ref ob)])) _
  obtain ⟨T1, X1, e1, st1⟩ := instY X0 hx hZ hown (hw _ (List.mem_of_getElem? (i := 25) rfl)) e0 (Ins.self E_ob) (g := (mkF m 1 #[.val (.ref oa), .val (.ref ob), .unset] [(.ref ob)])) rfl rfl (hb hby d4_1)
  refine Goes.by st1 ?_
  show Goes p.tables e below (T1.setTop (mkF m 4 #[.val (.ref oa), .val (.ref ob), .unset] [(.int (1 : Int32))])) _
  refine Goes.by (fun _ k => XS.ifNo X1.here hx rfl (hb hby d4_4) rfl ((if0 _ _).trans (feq (by decide : ¬ ((1 : Int32) = (0 : Int32)))).1) k) ?_
  show Goes p.tables e below (T1.setTop (mkF m 7 #[.val (.ref oa), .val (.ref ob), .unset] [])) _
  refine Goes.by (fun _ k => XS.aloadN X1.here hx rfl (hb hby d4_7) rfl rfl k) ?_
  show Goes p.tables e below (T1.setTop (mkF m 8 #[.val (.ref oa), .val (.ref ob), .unset] [(.ref ob)])) _
  obtain ⟨T2, X2, e2, st2⟩ := castY X1 hx hZ hown (hw _ (List.mem_of_getElem? (i := 25) rfl)) e1 (Ins.self E_ob) (g := (mkF m 8 #[.val (.ref oa), .val (.ref ob), .unset] [(.ref ob)])) rfl rfl (hb hby d4_8)
  refine Goes.by st2 ?_
  show Goes p.tables e below (T2.setTop (mkF m 11 #[.val (.ref oa), .val (.ref ob), .unset] [(.ref ob)])) _
  refine Goes.by (fun _ k => XS.astoreN X2.here hx rfl (hb hby d4_11) rfl rfl (l' := #[.val (.ref oa), .val (.ref ob), .val (.ref ob)]) rfl k) ?_
  show Goes p.tables e below (T2.setTop (mkF m 12 #[.val (.ref oa), .val (.ref ob), .val (.ref ob)] [])) _
  refine Goes.by (fun _ k => XS.aloadN X2.here hx rfl (hb hby d4_12) rfl rfl k) ?_
  show Goes p.tables e below (T2.setTop (mkF m 13 #[.val (.ref oa), .val (.ref ob), .val (.ref ob)] [(.ref oa)])) _
  obtain ⟨T3, X3, e3, st3⟩ := getF X2 hx hZ hown (host := "") (Or.inl (hw _ (List.mem_of_getElem? (i := 14) rfl))) Via.refl e2 F_oa_start (g := (mkF m 13 #[.val (.ref oa), .val (.ref ob), .val (.ref ob)] [(.ref oa)])) rfl rfl (hb hby d4_13)
  refine Goes.by st3 ?_
  show Goes p.tables e below (T3.setTop (mkF m 16 #[.val (.ref oa), .val (.ref ob), .val (.ref ob)] [(.int ua0)])) _
  refine Goes.by (fun _ k => XS.aloadN X3.here hx rfl (hb hby d4_16) rfl rfl k) ?_
  show Goes p.tables e below (T3.setTop (mkF m 17 #[.val (.ref oa), .val (.ref ob), .val (.ref ob)] [(.ref ob), (.int ua0)])) _
  obtain ⟨T4, X4, e4, st4⟩ := getF X3 hx hZ hown (host := "") (Or.inl (hw _ (List.mem_of_getElem? (i := 14) rfl))) Via.refl e3 F_ob_start (g := (mkF m 17 #[.val (.ref oa), .val (.ref ob), .val (.ref ob)] [(.ref ob), (.int ua0)])) rfl rfl (hb hby d4_17)
  refine Goes.by st4 ?_
  show Goes p.tables e below (T4.setTop (mkF m 20 #[.val (.ref oa), .val (.ref ob), .val (.ref ob)] [(.int ub0), (.int ua0)])) _
  by_cases hc5 : ua0 = ub0
  · refine Goes.by (fun _ k => XS.icmpNo X4.here hx rfl (hb hby d4_20) rfl (teq hc5).2 k) ?_
    show Goes p.tables e below (T4.setTop (mkF m 23 #[.val (.ref oa), .val (.ref ob), .val (.ref ob)] [])) _
    refine Goes.by (fun _ k => XS.aloadN X4.here hx rfl (hb hby d4_23) rfl rfl k) ?_
    show Goes p.tables e below (T4.setTop (mkF m 24 #[.val (.ref oa), .val (.ref ob), .val (.ref ob)] [(.ref oa)])) _
    obtain ⟨T6, X6, e6, st6⟩ := getF X4 hx hZ hown (host := "") (Or.inl (hw _ (List.mem_of_getElem? (i := 16) rfl))) Via.refl e4 F_oa_end (g := (mkF m 24 #[.val (.ref oa), .val (.ref ob), .val (.ref ob)] [(.ref oa)])) rfl rfl (hb hby d4_24)
    refine Goes.by st6 ?_
    show Goes p.tables e below (T6.setTop (mkF m 27 #[.val (.ref oa), .val (.ref ob), .val (.ref ob)] [(.int ua1)])) _
    refine Goes.by (fun _ k => XS.aloadN X6.here hx rfl (hb hby d4_27) rfl rfl k) ?_
    show Goes p.tables e below (T6.setTop (mkF m 28 #[.val (.ref oa), .val (.ref ob), .val (.ref ob)] [(.ref ob), (.int ua1)])) _
    obtain ⟨T7, X7, e7, st7⟩ := getF X6 hx hZ hown (host := "") (Or.inl (hw _ (List.mem_of_getElem? (i := 16) rfl))) Via.refl e6 F_ob_end (g := (mkF m 28 #[.val (.ref oa), .val (.ref ob), .val (.ref ob)] [(.ref ob), (.int ua1)])) rfl rfl (hb hby d4_28)
    refine Goes.by st7 ?_
    show Goes p.tables e below (T7.setTop (mkF m 31 #[.val (.ref oa), .val (.ref ob), .val (.ref ob)] [(.int ub1), (.int ua1)])) _
    by_cases hc8 : ua1 = ub1
    · refine Goes.by (fun _ k => XS.icmpNo X7.here hx rfl (hb hby d4_31) rfl (teq hc8).2 k) ?_
      show Goes p.tables e below (T7.setTop (mkF m 34 #[.val (.ref oa), .val (.ref ob), .val (.ref ob)] [])) _
      refine Goes.by (fun _ k => XS.aloadN X7.here hx rfl (hb hby d4_34) rfl rfl k) ?_
      show Goes p.tables e below (T7.setTop (mkF m 35 #[.val (.ref oa), .val (.ref ob), .val (.ref ob)] [(.ref oa)])) _
      obtain ⟨T9, X9, e9, st9⟩ := getF X7 hx hZ hown (host := "") (Or.inl (hw _ (List.mem_of_getElem? (i := 18) rfl))) Via.refl e7 F_oa_depth (g := (mkF m 35 #[.val (.ref oa), .val (.ref ob), .val (.ref ob)] [(.ref oa)])) rfl rfl (hb hby d4_35)
      refine Goes.by st9 ?_
      show Goes p.tables e below (T9.setTop (mkF m 38 #[.val (.ref oa), .val (.ref ob), .val (.ref ob)] [(.int ua2)])) _
      refine Goes.by (fun _ k => XS.aloadN X9.here hx rfl (hb hby d4_38) rfl rfl k) ?_
      show Goes p.tables e below (T9.setTop (mkF m 39 #[.val (.ref oa), .val (.ref ob), .val (.ref ob)] [(.ref ob), (.int ua2)])) _
      obtain ⟨T10, X10, e10, st10⟩ := getF X9 hx hZ hown (host := "") (Or.inl (hw _ (List.mem_of_getElem? (i := 18) rfl))) Via.refl e9 F_ob_depth (g := (mkF m 39 #[.val (.ref oa), .val (.ref ob), .val (.ref ob)] [(.ref ob), (.int ua2)])) rfl rfl (hb hby d4_39)
      refine Goes.by st10 ?_
      show Goes p.tables e below (T10.setTop (mkF m 42 #[.val (.ref oa), .val (.ref ob), .val (.ref ob)] [(.int ub2), (.int ua2)])) _
      by_cases hc11 : ua2 = ub2
      · refine Goes.by (fun _ k => XS.icmpNo X10.here hx rfl (hb hby d4_42) rfl (teq hc11).2 k) ?_
        show Goes p.tables e below (T10.setTop (mkF m 45 #[.val (.ref oa), .val (.ref ob), .val (.ref ob)] [])) _
        refine Goes.by (fun _ k => XS.iconst X10.here hx rfl (hb hby d4_45) k) ?_
        show Goes p.tables e below (T10.setTop (mkF m 46 #[.val (.ref oa), .val (.ref ob), .val (.ref ob)] [(.int (1 : Int32))])) _
        refine Goes.by (fun _ k => XS.goto X10.here hx rfl (pc0 := 46) (pc' := 50) rfl (hb hby d4_46) (by decide) (by decide) k) ?_
        show Goes p.tables e below (T10.setTop (mkF m 50 #[.val (.ref oa), .val (.ref ob), .val (.ref ob)] [(.int (1 : Int32))])) _
        obtain ⟨fs, hr, hrun, hended, hW, hsame⟩ := X10.leave (v := some (.int (1 : Int32))) (fun h => by rw [Bd.returns] at h; cases h)
        refine ⟨_, _, retN X10 hx (t := .boolean) Bd.returns (by simp) (hb hby d4_50) hr, hrun, hended, _, _, rfl, ?_, ⟨_, rfl⟩, hW, hsame.mono (by decide) (by decide)⟩
        show Q4 Z oa ob ua0 ua1 ua2 ub0 ub1 ub2 h0 n0 _ T10.heap _
        rw [e10]
        exact ⟨(by rw [fn4, if_pos hc5, if_pos hc8, if_pos hc11]), N0, rfl⟩
      · refine Goes.by (fun _ k => XS.icmpYes X10.here hx rfl (pc0 := 42) (pc' := 49) rfl (hb hby d4_42) rfl (feq hc11).2 (by decide) (by decide) k) ?_
        show Goes p.tables e below (T10.setTop (mkF m 49 #[.val (.ref oa), .val (.ref ob), .val (.ref ob)] [])) _
        refine Goes.by (fun _ k => XS.iconst X10.here hx rfl (hb hby d4_49) k) ?_
        show Goes p.tables e below (T10.setTop (mkF m 50 #[.val (.ref oa), .val (.ref ob), .val (.ref ob)] [(.int (0 : Int32))])) _
        obtain ⟨fs, hr, hrun, hended, hW, hsame⟩ := X10.leave (v := some (.int (0 : Int32))) (fun h => by rw [Bd.returns] at h; cases h)
        refine ⟨_, _, retN X10 hx (t := .boolean) Bd.returns (by simp) (hb hby d4_50) hr, hrun, hended, _, _, rfl, ?_, ⟨_, rfl⟩, hW, hsame.mono (by decide) (by decide)⟩
        show Q4 Z oa ob ua0 ua1 ua2 ub0 ub1 ub2 h0 n0 _ T10.heap _
        rw [e10]
        exact ⟨(by rw [fn4, if_pos hc5, if_pos hc8, if_neg hc11]), N0, rfl⟩
    · refine Goes.by (fun _ k => XS.icmpYes X7.here hx rfl (pc0 := 31) (pc' := 49) rfl (hb hby d4_31) rfl (feq hc8).2 (by decide) (by decide) k) ?_
      show Goes p.tables e below (T7.setTop (mkF m 49 #[.val (.ref oa), .val (.ref ob), .val (.ref ob)] [])) _
      refine Goes.by (fun _ k => XS.iconst X7.here hx rfl (hb hby d4_49) k) ?_
      show Goes p.tables e below (T7.setTop (mkF m 50 #[.val (.ref oa), .val (.ref ob), .val (.ref ob)] [(.int (0 : Int32))])) _
      obtain ⟨fs, hr, hrun, hended, hW, hsame⟩ := X7.leave (v := some (.int (0 : Int32))) (fun h => by rw [Bd.returns] at h; cases h)
      refine ⟨_, _, retN X7 hx (t := .boolean) Bd.returns (by simp) (hb hby d4_50) hr, hrun, hended, _, _, rfl, ?_, ⟨_, rfl⟩, hW, hsame.mono (by decide) (by decide)⟩
      show Q4 Z oa ob ua0 ua1 ua2 ub0 ub1 ub2 h0 n0 _ T7.heap _
      rw [e7]
      exact ⟨(by rw [fn4, if_pos hc5, if_neg hc8]), N0, rfl⟩
  · refine Goes.by (fun _ k => XS.icmpYes X4.here hx rfl (pc0 := 20) (pc' := 49) rfl (hb hby d4_20) rfl (feq hc5).2 (by decide) (by decide) k) ?_
    show Goes p.tables e below (T4.setTop (mkF m 49 #[.val (.ref oa), .val (.ref ob), .val (.ref ob)] [])) _
    refine Goes.by (fun _ k => XS.iconst X4.here hx rfl (hb hby d4_49) k) ?_
    show Goes p.tables e below (T4.setTop (mkF m 50 #[.val (.ref oa), .val (.ref ob), .val (.ref ob)] [(.int (0 : Int32))])) _
    obtain ⟨fs, hr, hrun, hended, hW, hsame⟩ := X4.leave (v := some (.int (0 : Int32))) (fun h => by rw [Bd.returns] at h; cases h)
    refine ⟨_, _, retN X4 hx (t := .boolean) Bd.returns (by simp) (hb hby d4_50) hr, hrun, hended, _, _, rfl, ?_, ⟨_, rfl⟩, hW, hsame.mono (by decide) (by decide)⟩
    show Q4 Z oa ob ua0 ua1 ua2 ub0 ub1 ub2 h0 n0 _ T4.heap _
    rw [e4]
    exact ⟨(by rw [fn4, if_neg hc5]), N0, rfl⟩
theorem ef4n (m : MethodId) (oa : Addr) : entryFrame m #[(.ref oa), .null] 3 = mkF m 0 #[.val (.ref oa), .val .null, .unset] [] := by first | (simp [entryFrame, mkF, argsToLocals, Value.category]; done) | rfl
def Q4n (Z : State) (oa : Addr) (h0 : Heap) (n0 : Nat) (v : Option Value) (h : Heap) (L : List Loc) : Prop := v = some (.int (0 : Int32)) ∧ Fr n0 L ∧ h = h0
set_option maxRecDepth 65536 in
set_option maxHeartbeats 40000000 in
theorem rm4n (l : Launch) (Z : State) (a0 : Array Value) (hw : ∀ d ∈ tables_1, d.before a0 Z = true) (ws : List Jvm.Cond) (oa : Addr) (h0 : Heap) (n0 : Nat) (Z0 : n0 ≤ h0.size) :
    MetFree l (⟨"com/example/treewrite/treewrite/document/Identifier", "equals", "(Ljava/lang/Object;)Z"⟩ : MethodName) (head1 (Jvm.Cond.code (⟨"com/example/treewrite/treewrite/document/Identifier", "equals", "(Ljava/lang/Object;)Z"⟩ : MethodName) prog_21_method_7_code 3 (some .boolean) :: ws) ({ frames := 0, cells := 0, slots := 0, locals := 0 } : Room)) (fun a U => a = #[(.ref oa), .null] ∧ Z.Warmed39 U.vm ∧ U.heap = h0) (fun _ _ _ _ _ => True) (fun _ U o U' => ∃ v L, o = .returned v ∧ Q4n Z oa h0 n0 v U'.heap L ∧ FrameEnd U o U' L ({ frames := 0, cells := 0, slots := 0, locals := 0 } : Room).cells ({ frames := 0, cells := 0, slots := 0, locals := 0 } : Room).slots) := by
  refine MetFree.of_bodySF (plainFor_of_name pn_1) hisR ?_
  intro p e s m args below meth c s₁ Bd hml0 hP hK
  obtain ⟨rfl, hZ, hh⟩ := hP
  have hx := Bd.exec
  have hby := Bd.bytes
  have hml : c.maxLocals = 3 := hml0
  have hown : s.vm.findClass "com/example/treewrite/treewrite/document/Identifier" = some m.cls := findClass_of_methodNamed Bd.named
  have hnm := (name_of_methodNamed Bd.named Bd.method).1
  have X0 : Stand p l e ({ frames := 0, cells := 0, slots := 0, locals := 0 } : Room) s m #[(.ref oa), .null] below meth c s₁ [] 0 0 := Stand.of_body Bd
  have e0 : s₁.heap = h0 := by rw [← hh, Bd.state]; rfl
  have N0 := Fr.nil n0
  refine Goes.by (fun _ k => castTop (ef4n m oa) k) ?_
  show Goes p.tables e below (s₁.setTop (mkF m 0 #[.val (.ref oa), .val .null, .unset] [])) _
  refine Goes.by (fun _ k => XS.aloadN X0.here hx rfl (hb hby d4_0) rfl rfl k) ?_
  show Goes p.tables e below (s₁.setTop (mkF m 1 #[.val (.ref oa), .val .null, .unset] [.null])) _
  refine Goes.by (fun _ k => X0.instanceofNull hx (g := (mkF m 1 #[.val (.ref oa), .val .null, .unset] [.null])) rfl rfl (hb hby d4_1) _ k) ?_
  show Goes p.tables e below (s₁.setTop (mkF m 4 #[.val (.ref oa), .val .null, .unset] [(.int (0 : Int32))])) _
  refine Goes.by (fun _ k => XS.ifYes X0.here hx rfl (pc0 := 4) (pc' := 49) rfl (hb hby d4_4) rfl ((if0 _ _).trans (teq (by decide : (0 : Int32) = (0 : Int32))).1) (by decide) (by decide) k) ?_
  show Goes p.tables e below (s₁.setTop (mkF m 49 #[.val (.ref oa), .val .null, .unset] [])) _
  refine Goes.by (fun _ k => XS.iconst X0.here hx rfl (hb hby d4_49) k) ?_
  show Goes p.tables e below (s₁.setTop (mkF m 50 #[.val (.ref oa), .val .null, .unset] [(.int (0 : Int32))])) _
  obtain ⟨fs, hr, hrun, hended, hW, hsame⟩ := X0.leave (v := some (.int (0 : Int32))) (fun h => by rw [Bd.returns] at h; cases h)
  refine ⟨_, _, retN X0 hx (t := .boolean) Bd.returns (by simp) (hb hby d4_50) hr, hrun, hended, _, _, rfl, ?_, ⟨_, rfl⟩, hW, hsame.mono (by decide) (by decide)⟩
  show Q4n Z oa h0 n0 _ s₁.heap _
  rw [e0]
  exact ⟨rfl, N0, rfl⟩
theorem ef4i (m : MethodId) (oa : Addr) (ob : Addr) : entryFrame m #[(.ref oa), (.ref ob)] 3 = mkF m 0 #[.val (.ref oa), .val (.ref ob), .unset] [] := by first | (simp [entryFrame, mkF, argsToLocals, Value.category]; done) | rfl
def Q4i (Z : State) (oa : Addr) (ob : Addr) (h0 : Heap) (n0 : Nat) (v : Option Value) (h : Heap) (L : List Loc) : Prop := v = some (.int (0 : Int32)) ∧ Fr n0 L ∧ h = h0
set_option maxRecDepth 65536 in
set_option maxHeartbeats 40000000 in
theorem rm4i (l : Launch) (Z : State) (a0 : Array Value) (hw : ∀ d ∈ tables_1, d.before a0 Z = true) (ws : List Jvm.Cond) (oa : Addr) (ob : Addr) (h0 : Heap) (n0 : Nat) (Z0 : n0 ≤ h0.size) (E_ob : Exa Z h0 ob "java/lang/Integer") :
    MetFree l (⟨"com/example/treewrite/treewrite/document/Identifier", "equals", "(Ljava/lang/Object;)Z"⟩ : MethodName) (head1 (Jvm.Cond.code (⟨"com/example/treewrite/treewrite/document/Identifier", "equals", "(Ljava/lang/Object;)Z"⟩ : MethodName) prog_21_method_7_code 3 (some .boolean) :: ws) ({ frames := 0, cells := 0, slots := 0, locals := 0 } : Room)) (fun a U => a = #[(.ref oa), (.ref ob)] ∧ Z.Warmed39 U.vm ∧ U.heap = h0) (fun _ _ _ _ _ => True) (fun _ U o U' => ∃ v L, o = .returned v ∧ Q4i Z oa ob h0 n0 v U'.heap L ∧ FrameEnd U o U' L ({ frames := 0, cells := 0, slots := 0, locals := 0 } : Room).cells ({ frames := 0, cells := 0, slots := 0, locals := 0 } : Room).slots) := by
  refine MetFree.of_bodySF (plainFor_of_name pn_1) hisR ?_
  intro p e s m args below meth c s₁ Bd hml0 hP hK
  obtain ⟨rfl, hZ, hh⟩ := hP
  have hx := Bd.exec
  have hby := Bd.bytes
  have hml : c.maxLocals = 3 := hml0
  have hown : s.vm.findClass "com/example/treewrite/treewrite/document/Identifier" = some m.cls := findClass_of_methodNamed Bd.named
  have hnm := (name_of_methodNamed Bd.named Bd.method).1
  have X0 : Stand p l e ({ frames := 0, cells := 0, slots := 0, locals := 0 } : Room) s m #[(.ref oa), (.ref ob)] below meth c s₁ [] 0 0 := Stand.of_body Bd
  have e0 : s₁.heap = h0 := by rw [← hh, Bd.state]; rfl
  have N0 := Fr.nil n0
  refine Goes.by (fun _ k => castTop (ef4i m oa ob) k) ?_
  show Goes p.tables e below (s₁.setTop (mkF m 0 #[.val (.ref oa), .val (.ref ob), .unset] [])) _
  refine Goes.by (fun _ k => XS.aloadN X0.here hx rfl (hb hby d4_0) rfl rfl k) ?_
  show Goes p.tables e below (s₁.setTop (mkF m 1 #[.val (.ref oa), .val (.ref ob), .unset] [(.ref ob)])) _
  obtain ⟨T1, X1, e1, st1⟩ := instNo X0 hx hZ hown (hw _ (List.mem_of_getElem? (i := 25) rfl)) e0 E_ob (own_no (hw _ (List.mem_of_getElem? (i := 46) rfl)) (hw _ (List.mem_of_getElem? (i := 1) rfl)) (own_step (hw _ (List.mem_of_getElem? (i := 46) rfl)) (own_step (hw _ (List.mem_of_getElem? (i := 47) rfl)) (own_root (hw _ (List.mem_of_getElem? (i := 48) rfl)) (hw _ (List.mem_of_getElem? (i := 1) rfl)) (by decide)) (by decide)) (by decide)) (by decide)) (g := (mkF m 1 #[.val (.ref oa), .val (.ref ob), .unset] [(.ref ob)])) rfl rfl (hb hby d4_1)
  refine Goes.by st1 ?_
  show Goes p.tables e below (T1.setTop (mkF m 4 #[.val (.ref oa), .val (.ref ob), .unset] [(.int (0 : Int32))])) _
  refine Goes.by (fun _ k => XS.ifYes X1.here hx rfl (pc0 := 4) (pc' := 49) rfl (hb hby d4_4) rfl ((if0 _ _).trans (teq (by decide : (0 : Int32) = (0 : Int32))).1) (by decide) (by decide) k) ?_
  show Goes p.tables e below (T1.setTop (mkF m 49 #[.val (.ref oa), .val (.ref ob), .unset] [])) _
  refine Goes.by (fun _ k => XS.iconst X1.here hx rfl (hb hby d4_49) k) ?_
  show Goes p.tables e below (T1.setTop (mkF m 50 #[.val (.ref oa), .val (.ref ob), .unset] [(.int (0 : Int32))])) _
  obtain ⟨fs, hr, hrun, hended, hW, hsame⟩ := X1.leave (v := some (.int (0 : Int32))) (fun h => by rw [Bd.returns] at h; cases h)
  refine ⟨_, _, retN X1 hx (t := .boolean) Bd.returns (by simp) (hb hby d4_50) hr, hrun, hended, _, _, rfl, ?_, ⟨_, rfl⟩, hW, hsame.mono (by decide) (by decide)⟩
  show Q4i Z oa ob h0 n0 _ T1.heap _
  rw [e1]
  exact ⟨rfl, N0, rfl⟩
theorem d7_0 : decode jdk_18_method_1_code 0 = .ok (.aload_n 0, 1) := by decide +kernel
theorem d7_1 : decode jdk_18_method_1_code 1 = .ok (.invokespecial 1, 3) := by decide +kernel
theorem d7_4 : decode jdk_18_method_1_code 4 = .ok (.return_, 1) := by decide +kernel
theorem pn_2 : plainName "java/lang/Number" = true := by first | (simp [plainName, overriddenIn]; done) | decide +kernel
theorem ef7 (m : MethodId) (oa : Addr) : entryFrame m #[(.ref oa)] 1 = mkF m 0 #[.val (.ref oa)] [] := by first | (simp [entryFrame, mkF, argsToLocals, Value.category]; done) | rfl
def Q7 (Z : State) (oa : Addr) (h0 : Heap) (n0 : Nat) (v : Option Value) (h : Heap) (L : List Loc) : Prop := v = none ∧ Fr n0 L ∧ h = h0
set_option maxRecDepth 65536 in
set_option maxHeartbeats 40000000 in
theorem rm7 (l : Launch) (Z : State) (a0 : Array Value) (hw : ∀ d ∈ tables_1, d.before a0 Z = true) (ws : List Jvm.Cond) (oa : Addr) (h0 : Heap) (n0 : Nat) (Z0 : n0 ≤ h0.size) :
    MetFree l (⟨"java/lang/Number", "<init>", "()V"⟩ : MethodName) (head1 (Jvm.Cond.code (⟨"java/lang/Number", "<init>", "()V"⟩ : MethodName) jdk_18_method_1_code 1 none :: ws) ({ frames := 1, cells := 0, slots := 0, locals := 12 } : Room)) (fun a U => a = #[(.ref oa)] ∧ Z.Warmed39 U.vm ∧ U.heap = h0) (fun _ _ _ _ _ => True) (fun _ U o U' => ∃ v L, o = .returned v ∧ Q7 Z oa h0 n0 v U'.heap L ∧ FrameEnd U o U' L ({ frames := 1, cells := 0, slots := 0, locals := 12 } : Room).cells ({ frames := 1, cells := 0, slots := 0, locals := 12 } : Room).slots) := by
  refine MetFree.of_bodySF (plainFor_of_name pn_2) hisR ?_
  intro p e s m args below meth c s₁ Bd hml0 hP hK
  obtain ⟨rfl, hZ, hh⟩ := hP
  have hx := Bd.exec
  have hby := Bd.bytes
  have hml : c.maxLocals = 1 := hml0
  have hown : s.vm.findClass "java/lang/Number" = some m.cls := findClass_of_methodNamed Bd.named
  have hnm := (name_of_methodNamed Bd.named Bd.method).1
  have X0 : Stand p l e ({ frames := 1, cells := 0, slots := 0, locals := 12 } : Room) s m #[(.ref oa)] below meth c s₁ [] 0 0 := Stand.of_body Bd
  have e0 : s₁.heap = h0 := by rw [← hh, Bd.state]; rfl
  have N0 := Fr.nil n0
  refine Goes.by (fun _ k => castTop (ef7 m oa) k) ?_
  show Goes p.tables e below (s₁.setTop (mkF m 0 #[.val (.ref oa)] [])) _
  refine Goes.by (fun _ k => XS.aloadN X0.here hx rfl (hb hby d7_0) rfl rfl k) ?_
  show Goes p.tables e below (s₁.setTop (mkF m 1 #[.val (.ref oa)] [(.ref oa)])) _
  obtain ⟨T1, X1, e1, st1⟩ := initO X0 hx hZ hown (hw _ (List.mem_of_getElem? (i := 43) rfl)) (hw _ (List.mem_of_getElem? (i := 12) rfl)) (hw _ (List.mem_of_getElem? (i := 13) rfl)) e0 (g := (mkF m 1 #[.val (.ref oa)] [(.ref oa)])) rfl (by rw [hml]; rfl) rfl (hb hby d7_1) (by decide) (W := 0) (by show 2 * 0 + _ ≤ _; exact Nat.le_of_eq rfl) (by decide)
  refine Goes.by st1 ?_
  show Goes p.tables e below (T1.setTop (mkF m 4 #[.val (.ref oa)] [])) _
  obtain ⟨fs, hr, hrun, hended, hW, hsame⟩ := X1.leave (v := none) (fun _ => rfl)
  refine ⟨_, _, X1.returnOut hx Bd.returns (hb hby d7_4) hr, hrun, hended, _, _, rfl, ?_, ⟨_, rfl⟩, hW, hsame.mono (by decide) (by decide)⟩
  show Q7 Z oa h0 n0 _ T1.heap _
  rw [e1]
  exact ⟨rfl, N0, rfl⟩
theorem d6_0 : decode jdk_33_method_23_code 0 = .ok (.aload_n 0, 1) := by decide +kernel
theorem d6_1 : decode jdk_33_method_23_code 1 = .ok (.invokespecial 202, 3) := by decide +kernel
theorem d6_4 : decode jdk_33_method_23_code 4 = .ok (.aload_n 0, 1) := by decide +kernel
theorem d6_5 : decode jdk_33_method_23_code 5 = .ok (.iload_n 1, 1) := by decide +kernel
theorem d6_6 : decode jdk_33_method_23_code 6 = .ok (.putfield 205, 3) := by decide +kernel
theorem d6_9 : decode jdk_33_method_23_code 9 = .ok (.return_, 1) := by decide +kernel
theorem pn_3 : plainName "java/lang/Integer" = true := by first | (simp [plainName, overriddenIn]; done) | decide +kernel
theorem ef6 (m : MethodId) (oa : Addr) (pv : Int32) : entryFrame m #[(.ref oa), (.int pv)] 2 = mkF m 0 #[.val (.ref oa), .val (.int pv)] [] := by first | (simp [entryFrame, mkF, argsToLocals, Value.category]; done) | rfl
def Q6 (Z : State) (oa : Addr) (pv : Int32) (h0 : Heap) (n0 : Nat) (v : Option Value) (h : Heap) (L : List Loc) : Prop := v = none ∧ Fr n0 L ∧ Keep h0 h [oa] ∧ Exa Z h oa "java/lang/Integer" ∧ Fld Z h oa "java/lang/Integer" "value" "I" (.int pv)
set_option maxRecDepth 65536 in
set_option maxHeartbeats 40000000 in
theorem rm6 (l : Launch) (Z : State) (a0 : Array Value) (hw : ∀ d ∈ tables_1, d.before a0 Z = true) (ws : List Jvm.Cond) (oa : Addr) (pv : Int32) (h0 : Heap) (n0 : Nat) (Z0 : n0 ≤ h0.size) (E_oa : Exa Z h0 oa "java/lang/Integer") (F_oa_value : Fld Z h0 oa "java/lang/Integer" "value" "I" (.int (0 : Int32))) (g_oa : n0 ≤ oa) :
    MetFree l (⟨"java/lang/Integer", "<init>", "(I)V"⟩ : MethodName) (head1 (Jvm.Cond.code (⟨"java/lang/Integer", "<init>", "(I)V"⟩ : MethodName) jdk_33_method_23_code 2 none :: ws) ({ frames := 2, cells := 0, slots := 0, locals := 24 } : Room)) (fun a U => a = #[(.ref oa), (.int pv)] ∧ Z.Warmed39 U.vm ∧ U.heap = h0) (fun _ _ _ _ _ => True) (fun _ U o U' => ∃ v L, o = .returned v ∧ Q6 Z oa pv h0 n0 v U'.heap L ∧ FrameEnd U o U' L ({ frames := 2, cells := 0, slots := 0, locals := 24 } : Room).cells ({ frames := 2, cells := 0, slots := 0, locals := 24 } : Room).slots) := by
  refine MetFree.of_bodySF (plainFor_of_name pn_3) hisR ?_
  intro p e s m args below meth c s₁ Bd hml0 hP hK
  obtain ⟨rfl, hZ, hh⟩ := hP
  have hx := Bd.exec
  have hby := Bd.bytes
  have hml : c.maxLocals = 2 := hml0
  have hown : s.vm.findClass "java/lang/Integer" = some m.cls := findClass_of_methodNamed Bd.named
  have hnm := (name_of_methodNamed Bd.named Bd.method).1
  have X0 : Stand p l e ({ frames := 2, cells := 0, slots := 0, locals := 24 } : Room) s m #[(.ref oa), (.int pv)] below meth c s₁ [] 0 0 := Stand.of_body Bd
  have e0 : s₁.heap = h0 := by rw [← hh, Bd.state]; rfl
  have N0 := Fr.nil n0
  refine Goes.by (fun _ k => castTop (ef6 m oa pv) k) ?_
  show Goes p.tables e below (s₁.setTop (mkF m 0 #[.val (.ref oa), .val (.int pv)] [])) _
  refine Goes.by (fun _ k => XS.aloadN X0.here hx rfl (hb hby d6_0) rfl rfl k) ?_
  show Goes p.tables e below (s₁.setTop (mkF m 1 #[.val (.ref oa), .val (.int pv)] [(.ref oa)])) _
  obtain ⟨_, _, ⟨T1, L1, k1, n1⟩, -, X1, ⟨Lc1, hQ1, l1, y1, z1⟩, st1⟩ := X0.specialBack hx (y := (⟨"java/lang/Number", "<init>", "()V"⟩ : MethodName)) rfl hown (mvT hZ (hw _ (List.mem_of_getElem? (i := 37) rfl))) (mvT hZ (hw _ (List.mem_of_getElem? (i := 38) rfl))) (mvT hZ (hw _ (List.mem_of_getElem? (i := 42) rfl))) (by decide) (backOf (W := 0) (rm7 l Z a0 hw [] oa h0 n0 Z0) hZ (hw _ (List.mem_of_getElem? (i := 42) rfl)) (hw _ (List.mem_of_getElem? (i := 41) rfl)) (by decide) (by decide)) (g := (mkF m 1 #[.val (.ref oa), .val (.int pv)] [(.ref oa)])) rfl (by rw [hml]; rfl) (Steps.refl _) (a := oa) (argsL := []) (rest := []) (lenOf pd_0 rfl) rfl (by show 2 * 0 + _ ≤ _; exact Nat.le_of_eq rfl) (hb hby d6_1) (fun _ _ => ⟨rfl, e0, (by decide : 0 + 0 ≤ _), (by decide : 0 + 0 ≤ _)⟩)
  dsimp only [Pt.U, Pt.locs, Pt.cells, Pt.slots] at X1 l1 y1 z1 st1 hQ1
  subst l1 y1 z1
  obtain ⟨rfl, N1q, e1⟩ := hQ1
  have N1 := Fr.app N0 N1q
  refine Goes.via st1 ?_
  show Goes p.tables e below (T1.setTop (mkF m 4 #[.val (.ref oa), .val (.int pv)] [])) _
  refine Goes.by (fun _ k => XS.aloadN X1.here hx rfl (hb hby d6_4) rfl rfl k) ?_
  show Goes p.tables e below (T1.setTop (mkF m 5 #[.val (.ref oa), .val (.int pv)] [(.ref oa)])) _
  refine Goes.by (fun _ k => XS.iloadN X1.here hx rfl (hb hby d6_5) rfl k) ?_
  show Goes p.tables e below (T1.setTop (mkF m 6 #[.val (.ref oa), .val (.int pv)] [(.int pv), (.ref oa)])) _
  obtain ⟨T2, h2, X2, e2, W2, st2⟩ := putF X1 hx hZ hown (host := "") (Or.inl (hw _ (List.mem_of_getElem? (i := 44) rfl))) Via.refl e1 F_oa_value E_oa (Or.inr ⟨(hw _ (List.mem_of_getElem? (i := 45) rfl)), rfl, hnm⟩) (hw _ (List.mem_of_getElem? (i := 32) rfl)) (ty := .int) (by decide) rfl rfl (g := (mkF m 6 #[.val (.ref oa), .val (.int pv)] [(.int pv), (.ref oa)])) rfl rfl (hb hby d6_6)
  refine Goes.by st2 ?_
  have F_oa_value : Fld Z h2 oa "java/lang/Integer" "value" "I" (.int pv) := F_oa_value.same W2
  have N2 := Fr.snoc X2 N1 g_oa
  have Zs2 : n0 ≤ h2.size := Nat.le_trans Z0 (Keep.of_wr W2).1
  have K2 : Keep h0 h2 [oa] := (Keep.refl h0 [oa]).wr W2 (Or.inl (List.mem_of_getElem? (i := 0) rfl))
  have E_oa : Exa Z h2 oa "java/lang/Integer" := E_oa.wr W2
  show Goes p.tables e below (T2.setTop (mkF m 9 #[.val (.ref oa), .val (.int pv)] [])) _
  obtain ⟨fs, hr, hrun, hended, hW, hsame⟩ := X2.leave (v := none) (fun _ => rfl)
  refine ⟨_, _, X2.returnOut hx Bd.returns (hb hby d6_9) hr, hrun, hended, _, _, rfl, ?_, ⟨_, rfl⟩, hW, hsame.mono (by decide) (by decide)⟩
  show Q6 Z oa pv h0 n0 _ T2.heap _
  rw [e2]
  exact ⟨rfl, N2, K2, E_oa, F_oa_value⟩
theorem own_at128 (v : Int32) (h1 : ¬ v < (-128 : Int32)) (h2 : ¬ (127 : Int32) < v) : (v + (128 : Int32)).toInt = ((v.toInt + 128).toNat : Int) ∧ (v.toInt + 128).toNat < 256 := by
  rw [Int32.lt_iff_toInt_lt] at h1 h2
  have e1 : (-128 : Int32).toInt = -128 := rfl
  have e2 : (127 : Int32).toInt = 127 := rfl
  have e3 : (128 : Int32).toInt = 128 := rfl
  have h3 := c_iadd v 128
  have r := rng32 (v + 128)
  omega
theorem d5_0 : decode jdk_33_method_22_code 0 = .ok (.iload_n 0, 1) := by decide +kernel
theorem d5_1 : decode jdk_33_method_22_code 1 = .ok (.bipush (-128), 2) := by decide +kernel
theorem d5_3 : decode jdk_33_method_22_code 3 = .ok (.if_icmp .lt 20, 3) := by decide +kernel
theorem d5_23 : decode jdk_33_method_22_code 23 = .ok (.new 1, 3) := by decide +kernel
theorem d5_26 : decode jdk_33_method_22_code 26 = .ok (.dup, 1) := by decide +kernel
theorem d5_27 : decode jdk_33_method_22_code 27 = .ok (.iload_n 0, 1) := by decide +kernel
theorem d5_28 : decode jdk_33_method_22_code 28 = .ok (.invokespecial 199, 3) := by decide +kernel
theorem pd_1 : parseMethodDescriptor "(I)V" = some ⟨[.int], none⟩ := by decide +kernel
theorem d5_31 : decode jdk_33_method_22_code 31 = .ok (.areturn, 1) := by decide +kernel
theorem d5_6 : decode jdk_33_method_22_code 6 = .ok (.iload_n 0, 1) := by decide +kernel
theorem d5_7 : decode jdk_33_method_22_code 7 = .ok (.getstatic 191, 3) := by decide +kernel
theorem d5_10 : decode jdk_33_method_22_code 10 = .ok (.if_icmp .gt 13, 3) := by decide +kernel
theorem d5_13 : decode jdk_33_method_22_code 13 = .ok (.getstatic 195, 3) := by decide +kernel
theorem d5_16 : decode jdk_33_method_22_code 16 = .ok (.iload_n 0, 1) := by decide +kernel
theorem d5_17 : decode jdk_33_method_22_code 17 = .ok (.sipush 128, 3) := by decide +kernel
theorem d5_20 : decode jdk_33_method_22_code 20 = .ok (.iadd, 1) := by decide +kernel
theorem d5_21 : decode jdk_33_method_22_code 21 = .ok (.aaload, 1) := by decide +kernel
theorem d5_22 : decode jdk_33_method_22_code 22 = .ok (.areturn, 1) := by decide +kernel
theorem ef5 (m : MethodId) (pv : Int32) : entryFrame m #[(.int pv)] 1 = mkF m 0 #[.val (.int pv)] [] := by first | (simp [entryFrame, mkF, argsToLocals, Value.category]; done) | rfl
def Q5 (Z : State) (pv : Int32) (acac : Addr) (h0 : Heap) (n0 : Nat) (v : Option Value) (h : Heap) (L : List Loc) : Prop := ∃ ob : Addr, v = some (.ref ob) ∧ Fr n0 L ∧ Keep h0 h [] ∧ Exa Z h ob "java/lang/Integer"
set_option maxRecDepth 65536 in
set_option maxHeartbeats 40000000 in
theorem rm5 (l : Launch) (Z : State) (a0 : Array Value) (hw : ∀ d ∈ tables_1, d.before a0 Z = true) (ws : List Jvm.Cond) (pv : Int32) (acac : Addr) (h0 : Heap) (n0 : Nat) (Z0 : n0 ≤ h0.size) (O : Old Z n0 h0) (S_high : Sta Z Z.heap "java/lang/Integer$IntegerCache" "high" "I" (.int (127 : Int32))) (S_cache : Sta Z Z.heap "java/lang/Integer$IntegerCache" "cache" "[Ljava/lang/Integer;" (.ref acac)) (hcac : Cac Z acac) :
    MetFree l (⟨"java/lang/Integer", "valueOf", "(I)Ljava/lang/Integer;"⟩ : MethodName) (head1 (Jvm.Cond.code (⟨"java/lang/Integer", "valueOf", "(I)Ljava/lang/Integer;"⟩ : MethodName) jdk_33_method_22_code 1 (some (.object "java/lang/Integer")) :: ws) ({ frames := 3, cells := 1, slots := 1, locals := 38 } : Room)) (fun a U => a = #[(.int pv)] ∧ Z.Warmed39 U.vm ∧ U.heap = h0) (fun _ _ _ _ _ => True) (fun _ U o U' => ∃ v L, o = .returned v ∧ Q5 Z pv acac h0 n0 v U'.heap L ∧ FrameEnd U o U' L ({ frames := 3, cells := 1, slots := 1, locals := 38 } : Room).cells ({ frames := 3, cells := 1, slots := 1, locals := 38 } : Room).slots) := by
  refine MetFree.of_bodySF (plainFor_of_name pn_3) hisR ?_
  intro p e s m args below meth c s₁ Bd hml0 hP hK
  obtain ⟨rfl, hZ, hh⟩ := hP
  have hx := Bd.exec
  have hby := Bd.bytes
  have hml : c.maxLocals = 1 := hml0
  have hown : s.vm.findClass "java/lang/Integer" = some m.cls := findClass_of_methodNamed Bd.named
  have hnm := (name_of_methodNamed Bd.named Bd.method).1
  have X0 : Stand p l e ({ frames := 3, cells := 1, slots := 1, locals := 38 } : Room) s m #[(.int pv)] below meth c s₁ [] 0 0 := Stand.of_body Bd
  have e0 : s₁.heap = h0 := by rw [← hh, Bd.state]; rfl
  have N0 := Fr.nil n0
  refine Goes.by (fun _ k => castTop (ef5 m pv) k) ?_
  show Goes p.tables e below (s₁.setTop (mkF m 0 #[.val (.int pv)] [])) _
  refine Goes.by (fun _ k => XS.iloadN X0.here hx rfl (hb hby d5_0) rfl k) ?_
  show Goes p.tables e below (s₁.setTop (mkF m 1 #[.val (.int pv)] [(.int pv)])) _
  refine Goes.by (fun _ k => XS.bipush X0.here hx rfl (hb hby d5_1) k) ?_
  show Goes p.tables e below (s₁.setTop (mkF m 3 #[.val (.int pv)] [(.int (-128 : Int32)), (.int pv)])) _
  by_cases hc1 : pv < (-128 : Int32)
  · refine Goes.by (fun _ k => XS.icmpYes X0.here hx rfl (pc0 := 3) (pc' := 23) rfl (hb hby d5_3) rfl (tlt hc1).1 (by decide) (by decide) k) ?_
    show Goes p.tables e below (s₁.setTop (mkF m 23 #[.val (.int pv)] [])) _
    obtain ⟨T2, h2, X2, e2, E2, A2, D2, -, st2⟩ := newO X0 hx hZ hown (hw _ (List.mem_of_getElem? (i := 31) rfl)) (hw _ (List.mem_of_getElem? (i := 32) rfl)) (hw _ (List.mem_of_getElem? (i := 29) rfl)) e0 (g := (mkF m 23 #[.val (.int pv)] [])) rfl (hb hby d5_23) (by decide) (by decide)
    obtain ⟨b2, g2⟩ : ∃ z, z = h0.size := ⟨_, rfl⟩
    rw [← g2] at A2 D2 st2
    have g_b2 : n0 ≤ b2 := Nat.le_trans Z0 (Nat.le_of_eq g2.symm)
    have sz_b2 : h0.size ≤ b2 := Nat.le_trans (Keep.refl h0 []).1 (Nat.le_of_eq g2.symm)
    have Zs2 : n0 ≤ h2.size := Nat.le_trans Z0 E2.1
    have K2 : Keep h0 h2 [] := (Keep.refl h0 []).ext E2
    refine Goes.by st2 ?_
    have O : Old Z n0 h2 := O.ext E2
    have E_b2 : Exa Z h2 b2 "java/lang/Integer" := A2
    have F_b2_value : Fld Z h2 b2 "java/lang/Integer" "value" "I" (.int (0 : Int32)) := D2 (Or.inr (hw _ (List.mem_of_getElem? (i := 45) rfl))) (ty := .int) (by decide)
    show Goes p.tables e below (T2.setTop (mkF m 26 #[.val (.int pv)] [(.ref b2)])) _
    refine Goes.by (fun _ k => XS.dup X2.here hx rfl (hb hby d5_26) rfl rfl k) ?_
    show Goes p.tables e below (T2.setTop (mkF m 27 #[.val (.int pv)] [(.ref b2), (.ref b2)])) _
    refine Goes.by (fun _ k => XS.iloadN X2.here hx rfl (hb hby d5_27) rfl k) ?_
    show Goes p.tables e below (T2.setTop (mkF m 28 #[.val (.int pv)] [(.int pv), (.ref b2), (.ref b2)])) _
    obtain ⟨_, _, ⟨T3, L3, k3, n3⟩, -, X3, ⟨Lc3, hQ3, l3, y3, z3⟩, st3⟩ := X2.specialBack hx (y := (⟨"java/lang/Integer", "<init>", "(I)V"⟩ : MethodName)) rfl hown (mvT hZ (hw _ (List.mem_of_getElem? (i := 33) rfl))) (mvT hZ (hw _ (List.mem_of_getElem? (i := 34) rfl))) (mvT hZ (hw _ (List.mem_of_getElem? (i := 36) rfl))) (by decide) (backOf (W := 1) (rm6 l Z a0 hw [] b2 pv h2 n0 Zs2 E_b2 F_b2_value g_b2) hZ (hw _ (List.mem_of_getElem? (i := 36) rfl)) (hw _ (List.mem_of_getElem? (i := 29) rfl)) (by decide) (by decide)) (g := (mkF m 28 #[.val (.int pv)] [(.int pv), (.ref b2), (.ref b2)])) rfl (by rw [hml]; rfl) (Steps.refl _) (a := b2) (argsL := [(.int pv)]) (rest := [(.ref b2)]) (lenOf pd_1 rfl) rfl (by show 2 * 0 + _ ≤ _; exact Nat.le_of_eq rfl) (hb hby d5_28) (fun _ _ => ⟨rfl, e2, (by decide : 1 + 0 ≤ _), (by decide : 1 + 0 ≤ _)⟩)
    dsimp only [Pt.U, Pt.locs, Pt.cells, Pt.slots] at X3 l3 y3 z3 st3 hQ3
    subst l3 y3 z3
    obtain ⟨rfl, N3q, Kq3, po3_0, po3_1⟩ := hQ3
    have N3 := Fr.app N0 N3q
    refine Goes.via st3 ?_
    have Zs3 : n0 ≤ T3.heap.size := Nat.le_trans Zs2 Kq3.1
    have K3 : Keep h0 T3.heap [] := K2.trans Kq3 (allS (Or.inr sz_b2) all0)
    have O : Old Z n0 T3.heap := O.keep Kq3 (allS g_b2 all0)
    have E_b2 : Exa Z T3.heap b2 "java/lang/Integer" := E_b2.keep Kq3
    have E_b2 : Exa Z T3.heap b2 "java/lang/Integer" := po3_0
    have F_b2_value : Fld Z T3.heap b2 "java/lang/Integer" "value" "I" (.int pv) := po3_1
    show Goes p.tables e below (T3.setTop (mkF m 31 #[.val (.int pv)] [(.ref b2)])) _
    obtain ⟨fs, hr, hrun, hended, hW, hsame⟩ := X3.leave (v := some (.ref b2)) (fun h => by rw [Bd.returns] at h; cases h)
    refine ⟨_, _, retOut X3 hx Bd.returns (i := .areturn) (narR rfl) (Or.inr (Or.inr (Or.inr (Or.inr ⟨rfl, rfl, rfl⟩)))) (hb hby d5_31) hr, hrun, hended, _, _, rfl, ?_, ⟨_, rfl⟩, hW, hsame.mono (by decide) (by decide)⟩
    show Q5 Z pv acac h0 n0 _ T3.heap _
    exact ⟨b2, rfl, N3, K3, E_b2⟩
  · refine Goes.by (fun _ k => XS.icmpNo X0.here hx rfl (hb hby d5_3) rfl (flt hc1).1 k) ?_
    show Goes p.tables e below (s₁.setTop (mkF m 6 #[.val (.int pv)] [])) _
    refine Goes.by (fun _ k => XS.iloadN X0.here hx rfl (hb hby d5_6) rfl k) ?_
    show Goes p.tables e below (s₁.setTop (mkF m 7 #[.val (.int pv)] [(.int pv)])) _
    obtain ⟨T4, X4, e4, st4⟩ := getS2 X0 hx hZ hown (host := "") (Or.inl (hw _ (List.mem_of_getElem? (i := 49) rfl))) Via.refl e0 (S_high.ext O.2) (g := (mkF m 7 #[.val (.int pv)] [(.int pv)])) rfl (hb hby d5_7)
    refine Goes.by st4 ?_
    show Goes p.tables e below (T4.setTop (mkF m 10 #[.val (.int pv)] [(.int (127 : Int32)), (.int pv)])) _
    by_cases hc5 : (127 : Int32) < pv
    · refine Goes.by (fun _ k => XS.icmpYes X4.here hx rfl (pc0 := 10) (pc' := 23) rfl (hb hby d5_10) rfl (tlt hc5).2.2.1 (by decide) (by decide) k) ?_
      show Goes p.tables e below (T4.setTop (mkF m 23 #[.val (.int pv)] [])) _
      obtain ⟨T6, h6, X6, e6, E6, A6, D6, -, st6⟩ := newO X4 hx hZ hown (hw _ (List.mem_of_getElem? (i := 31) rfl)) (hw _ (List.mem_of_getElem? (i := 32) rfl)) (hw _ (List.mem_of_getElem? (i := 29) rfl)) e4 (g := (mkF m 23 #[.val (.int pv)] [])) rfl (hb hby d5_23) (by decide) (by decide)
      obtain ⟨b6, g6⟩ : ∃ z, z = h0.size := ⟨_, rfl⟩
      rw [← g6] at A6 D6 st6
      have g_b6 : n0 ≤ b6 := Nat.le_trans Z0 (Nat.le_of_eq g6.symm)
      have sz_b6 : h0.size ≤ b6 := Nat.le_trans (Keep.refl h0 []).1 (Nat.le_of_eq g6.symm)
      have Zs6 : n0 ≤ h6.size := Nat.le_trans Z0 E6.1
      have K6 : Keep h0 h6 [] := (Keep.refl h0 []).ext E6
      refine Goes.by st6 ?_
      have O : Old Z n0 h6 := O.ext E6
      have E_b6 : Exa Z h6 b6 "java/lang/Integer" := A6
      have F_b6_value : Fld Z h6 b6 "java/lang/Integer" "value" "I" (.int (0 : Int32)) := D6 (Or.inr (hw _ (List.mem_of_getElem? (i := 45) rfl))) (ty := .int) (by decide)
      show Goes p.tables e below (T6.setTop (mkF m 26 #[.val (.int pv)] [(.ref b6)])) _
      refine Goes.by (fun _ k => XS.dup X6.here hx rfl (hb hby d5_26) rfl rfl k) ?_
      show Goes p.tables e below (T6.setTop (mkF m 27 #[.val (.int pv)] [(.ref b6), (.ref b6)])) _
      refine Goes.by (fun _ k => XS.iloadN X6.here hx rfl (hb hby d5_27) rfl k) ?_
      show Goes p.tables e below (T6.setTop (mkF m 28 #[.val (.int pv)] [(.int pv), (.ref b6), (.ref b6)])) _
      obtain ⟨_, _, ⟨T7, L7, k7, n7⟩, -, X7, ⟨Lc7, hQ7, l7, y7, z7⟩, st7⟩ := X6.specialBack hx (y := (⟨"java/lang/Integer", "<init>", "(I)V"⟩ : MethodName)) rfl hown (mvT hZ (hw _ (List.mem_of_getElem? (i := 33) rfl))) (mvT hZ (hw _ (List.mem_of_getElem? (i := 34) rfl))) (mvT hZ (hw _ (List.mem_of_getElem? (i := 36) rfl))) (by decide) (backOf (W := 1) (rm6 l Z a0 hw [] b6 pv h6 n0 Zs6 E_b6 F_b6_value g_b6) hZ (hw _ (List.mem_of_getElem? (i := 36) rfl)) (hw _ (List.mem_of_getElem? (i := 29) rfl)) (by decide) (by decide)) (g := (mkF m 28 #[.val (.int pv)] [(.int pv), (.ref b6), (.ref b6)])) rfl (by rw [hml]; rfl) (Steps.refl _) (a := b6) (argsL := [(.int pv)]) (rest := [(.ref b6)]) (lenOf pd_1 rfl) rfl (by show 2 * 0 + _ ≤ _; exact Nat.le_of_eq rfl) (hb hby d5_28) (fun _ _ => ⟨rfl, e6, (by decide : 1 + 0 ≤ _), (by decide : 1 + 0 ≤ _)⟩)
      dsimp only [Pt.U, Pt.locs, Pt.cells, Pt.slots] at X7 l7 y7 z7 st7 hQ7
      subst l7 y7 z7
      obtain ⟨rfl, N7q, Kq7, po7_0, po7_1⟩ := hQ7
      have N7 := Fr.app N0 N7q
      refine Goes.via st7 ?_
      have Zs7 : n0 ≤ T7.heap.size := Nat.le_trans Zs6 Kq7.1
      have K7 : Keep h0 T7.heap [] := K6.trans Kq7 (allS (Or.inr sz_b6) all0)
      have O : Old Z n0 T7.heap := O.keep Kq7 (allS g_b6 all0)
      have E_b6 : Exa Z T7.heap b6 "java/lang/Integer" := E_b6.keep Kq7
      have E_b6 : Exa Z T7.heap b6 "java/lang/Integer" := po7_0
      have F_b6_value : Fld Z T7.heap b6 "java/lang/Integer" "value" "I" (.int pv) := po7_1
      show Goes p.tables e below (T7.setTop (mkF m 31 #[.val (.int pv)] [(.ref b6)])) _
      obtain ⟨fs, hr, hrun, hended, hW, hsame⟩ := X7.leave (v := some (.ref b6)) (fun h => by rw [Bd.returns] at h; cases h)
      refine ⟨_, _, retOut X7 hx Bd.returns (i := .areturn) (narR rfl) (Or.inr (Or.inr (Or.inr (Or.inr ⟨rfl, rfl, rfl⟩)))) (hb hby d5_31) hr, hrun, hended, _, _, rfl, ?_, ⟨_, rfl⟩, hW, hsame.mono (by decide) (by decide)⟩
      show Q5 Z pv acac h0 n0 _ T7.heap _
      exact ⟨b6, rfl, N7, K7, E_b6⟩
    · refine Goes.by (fun _ k => XS.icmpNo X4.here hx rfl (hb hby d5_10) rfl (flt hc5).2.2.1 k) ?_
      show Goes p.tables e below (T4.setTop (mkF m 13 #[.val (.int pv)] [])) _
      obtain ⟨T8, X8, e8, st8⟩ := getS2 X4 hx hZ hown (host := "") (Or.inl (hw _ (List.mem_of_getElem? (i := 51) rfl))) Via.refl e4 (S_cache.ext O.2) (g := (mkF m 13 #[.val (.int pv)] [])) rfl (hb hby d5_13)
      refine Goes.by st8 ?_
      show Goes p.tables e below (T8.setTop (mkF m 16 #[.val (.int pv)] [(.ref acac)])) _
      refine Goes.by (fun _ k => XS.iloadN X8.here hx rfl (hb hby d5_16) rfl k) ?_
      show Goes p.tables e below (T8.setTop (mkF m 17 #[.val (.int pv)] [(.int pv), (.ref acac)])) _
      refine Goes.by (fun _ k => XS.sipush X8.here hx rfl (hb hby d5_17) k) ?_
      show Goes p.tables e below (T8.setTop (mkF m 20 #[.val (.int pv)] [(.int (128 : Int32)), (.int pv), (.ref acac)])) _
      refine Goes.by (fun _ k => XS.iadd X8.here hx rfl (hb hby d5_20) rfl k) ?_
      show Goes p.tables e below (T8.setTop (mkF m 21 #[.val (.int pv)] [(.int (pv + (128 : Int32))), (.ref acac)])) _
      obtain ⟨b9, E9, st9⟩ := ldCac (i := (pv.toInt + 128).toNat) (fr := (mkF m 21 #[.val (.int pv)] [(.int (pv + (128 : Int32))), (.ref acac)])) X8 hx hZ e8 O.2 hcac (own_at128 pv hc1 hc5).1 (own_at128 pv hc1 hc5).2 rfl rfl (hb hby d5_21)
      refine Goes.by st9 ?_
      have E_b9 : Exa Z h0 b9 "java/lang/Integer" := E9
      show Goes p.tables e below (T8.setTop (mkF m 22 #[.val (.int pv)] [(.ref b9)])) _
      obtain ⟨fs, hr, hrun, hended, hW, hsame⟩ := X8.leave (v := some (.ref b9)) (fun h => by rw [Bd.returns] at h; cases h)
      refine ⟨_, _, retOut X8 hx Bd.returns (i := .areturn) (narR rfl) (Or.inr (Or.inr (Or.inr (Or.inr ⟨rfl, rfl, rfl⟩)))) (hb hby d5_22) hr, hrun, hended, _, _, rfl, ?_, ⟨_, rfl⟩, hW, hsame.mono (by decide) (by decide)⟩
      show Q5 Z pv acac h0 n0 _ T8.heap _
      rw [e8]
      exact ⟨b9, rfl, N0, (Keep.refl h0 []), E_b9⟩
theorem own_self (x y z : Int32) : fn4 x y z x y z = (1 : Int32) := by rw [fn4, if_pos rfl, if_pos rfl, if_pos rfl]
theorem own_sym (s e d s' e' d' : Int32) : fn4 s e d s' e' d' = fn4 s' e' d' s e d := by
  rw [fn4, fn4]
  (repeat' split) <;> first | rfl | (exfalso; simp_all)
theorem own_exp (s e d s' e' d' : Int32) : fn4 s e d s' e' d' = (if s' = s then (if e' = e then (if d' = d then (1 : Int32) else (0 : Int32)) else (0 : Int32)) else (0 : Int32)) := by
  rw [fn4]
  (repeat' split) <;> first | rfl | (exfalso; simp_all)
theorem own_k (w z : Int32) (h : z = (((w.toUInt32 >>> ((3 : Int32) &&& 31).toUInt32).toInt32) &&& (3 : Int32))) (h2 : ¬ z = (2 : Int32)) (h3 : ¬ z = (3 : Int32)) : z < (2 : Int32) := by
  have a := c_and ((w.toUInt32 >>> ((3 : Int32) &&& 31).toUInt32).toInt32) 3 (by decide)
  rw [← h] at a
  have e3 : (3 : Int32).toInt = 3 := rfl
  have e2 : (2 : Int32).toInt = 2 := rfl
  rw [← Int32.toInt_inj, e2] at h2
  rw [← Int32.toInt_inj, e3] at h3
  rw [Int32.lt_iff_toInt_lt, e2]
  omega
theorem pd_2 : parseMethodDescriptor "(III)V" = some ⟨[.int, .int, .int], none⟩ := by decide +kernel
theorem pd_3 : parseMethodDescriptor "(Ljava/lang/Object;)Z" = some ⟨[(.object "java/lang/Object")], some .boolean⟩ := by decide +kernel
theorem pd_4 : parseMethodDescriptor "(I)Ljava/lang/Integer;" = some ⟨[.int], some (.object "java/lang/Integer")⟩ := by decide +kernel
theorem pn_4 : plainName "com/example/treewrite/treewrite/document/IdentifierEqualsPinLaw" = true := by first | (simp [plainName, overriddenIn]; done) | decide +kernel
theorem ef0 (m : MethodId) (ps : Int32) (pe : Int32) (pd : Int32) (ps2 : Int32) (pe2 : Int32) (pp : Int64) : entryFrame m #[(.int ps), (.int pe), (.int pd), (.int ps2), (.int pe2), (.long pp)] maxLocals = mkF m 0 #[.val (.int ps), .val (.int pe), .val (.int pd), .val (.int ps2), .val (.int pe2), .val (.long pp), .second, .unset, .unset, .unset, .unset, .unset, .unset, .unset, .unset, .unset, .unset, .unset] [] := by first | (simp [entryFrame, mkF, argsToLocals, Value.category, maxLocals]; done) | rfl
def Q0 (Z : State) (ps : Int32) (pe : Int32) (pd : Int32) (ps2 : Int32) (pe2 : Int32) (pp : Int64) (acac : Addr) (h0 : Heap) (n0 : Nat) (v : Option Value) (h : Heap) (L : List Loc) : Prop := v = some (.int (1 : Int32)) ∧ Fr n0 L
set_option maxRecDepth 65536 in
set_option maxHeartbeats 40000000 in
theorem rm0 (l : Launch) (Z : State) (a0 : Array Value) (hw : ∀ d ∈ tables_1, d.before a0 Z = true) (ws : List Jvm.Cond) (ps : Int32) (pe : Int32) (pd : Int32) (ps2 : Int32) (pe2 : Int32) (pp : Int64) (acac : Addr) (h0 : Heap) (n0 : Nat) (Z0 : n0 ≤ h0.size) (O : Old Z n0 h0) (S_high : Sta Z Z.heap "java/lang/Integer$IntegerCache" "high" "I" (.int (127 : Int32))) (S_cache : Sta Z Z.heap "java/lang/Integer$IntegerCache" "cache" "[Ljava/lang/Integer;" (.ref acac)) (hcac : Cac Z acac) :
    MetFree l x (head1 (Jvm.Cond.code x code maxLocals ret :: ws) room_1) (fun a U => a = #[(.int ps), (.int pe), (.int pd), (.int ps2), (.int pe2), (.long pp)] ∧ Z.Warmed39 U.vm ∧ U.heap = h0) (fun _ _ _ _ _ => True) (fun _ U o U' => ∃ v L, o = .returned v ∧ Q0 Z ps pe pd ps2 pe2 pp acac h0 n0 v U'.heap L ∧ FrameEnd U o U' L room_1.cells room_1.slots) := by
  refine MetFree.of_bodySF (plainFor_of_name pn_4) hisR ?_
  intro p e s m args below meth c s₁ Bd hml0 hP hK
  obtain ⟨rfl, hZ, hh⟩ := hP
  have hx := Bd.exec
  have hby := Bd.bytes
  have hml : c.maxLocals = 18 := hml0
  have hown : s.vm.findClass "com/example/treewrite/treewrite/document/IdentifierEqualsPinLaw" = some m.cls := findClass_of_methodNamed Bd.named
  have hnm := (name_of_methodNamed Bd.named Bd.method).1
  have X0 : Stand p l e room_1 s m #[(.int ps), (.int pe), (.int pd), (.int ps2), (.int pe2), (.long pp)] below meth c s₁ [] 0 0 := Stand.of_body Bd
  have e0 : s₁.heap = h0 := by rw [← hh, Bd.state]; rfl
  have N0 := Fr.nil n0
  refine Goes.by (fun _ k => castTop (ef0 m ps pe pd ps2 pe2 pp) k) ?_
  show Goes p.tables e below (s₁.setTop (mkF m 0 #[.val (.int ps), .val (.int pe), .val (.int pd), .val (.int ps2), .val (.int pe2), .val (.long pp), .second, .unset, .unset, .unset, .unset, .unset, .unset, .unset, .unset, .unset, .unset, .unset] [])) _
  refine Goes.by (fun _ k => XS.lload X0.here hx rfl (hb hby at_0) rfl k) ?_
  show Goes p.tables e below (s₁.setTop (mkF m 2 #[.val (.int ps), .val (.int pe), .val (.int pd), .val (.int ps2), .val (.int pe2), .val (.long pp), .second, .unset, .unset, .unset, .unset, .unset, .unset, .unset, .unset, .unset, .unset, .unset] [(.long pp)])) _
  refine Goes.by (fun _ k => XS.l2i X0.here hx rfl (hb hby at_2) rfl k) ?_
  show Goes p.tables e below (s₁.setTop (mkF m 3 #[.val (.int ps), .val (.int pe), .val (.int pd), .val (.int ps2), .val (.int pe2), .val (.long pp), .second, .unset, .unset, .unset, .unset, .unset, .unset, .unset, .unset, .unset, .unset, .unset] [(.int (pp.toInt32))])) _
  obtain ⟨x1, hx1⟩ : ∃ z : Int32, z = (pp.toInt32) := ⟨_, rfl⟩
  refine Goes.by (fun _ k => XS.istore X0.here hx rfl (hb hby at_3) rfl (l' := #[.val (.int ps), .val (.int pe), .val (.int pd), .val (.int ps2), .val (.int pe2), .val (.long pp), .second, .val (.int x1), .unset, .unset, .unset, .unset, .unset, .unset, .unset, .unset, .unset, .unset]) (by rw [hx1]; rfl) k) ?_
  show Goes p.tables e below (s₁.setTop (mkF m 5 #[.val (.int ps), .val (.int pe), .val (.int pd), .val (.int ps2), .val (.int pe2), .val (.long pp), .second, .val (.int x1), .unset, .unset, .unset, .unset, .unset, .unset, .unset, .unset, .unset, .unset] [])) _
  refine Goes.by (fun _ k => XS.lload X0.here hx rfl (hb hby at_5) rfl k) ?_
  show Goes p.tables e below (s₁.setTop (mkF m 7 #[.val (.int ps), .val (.int pe), .val (.int pd), .val (.int ps2), .val (.int pe2), .val (.long pp), .second, .val (.int x1), .unset, .unset, .unset, .unset, .unset, .unset, .unset, .unset, .unset, .unset] [(.long pp)])) _
  refine Goes.by (fun _ k => XS.bipush X0.here hx rfl (hb hby at_7) k) ?_
  show Goes p.tables e below (s₁.setTop (mkF m 9 #[.val (.int ps), .val (.int pe), .val (.int pd), .val (.int ps2), .val (.int pe2), .val (.long pp), .second, .val (.int x1), .unset, .unset, .unset, .unset, .unset, .unset, .unset, .unset, .unset, .unset] [(.int (32 : Int32)), (.long pp)])) _
  refine Goes.by (fun _ k => XS.lushr X0.here hx rfl (hb hby at_9) rfl k) ?_
  show Goes p.tables e below (s₁.setTop (mkF m 10 #[.val (.int ps), .val (.int pe), .val (.int pd), .val (.int ps2), .val (.int pe2), .val (.long pp), .second, .val (.int x1), .unset, .unset, .unset, .unset, .unset, .unset, .unset, .unset, .unset, .unset] [(.long ((pp.toUInt64 >>> ((32 : Int32) &&& 0x3f).toInt64.toUInt64).toInt64))])) _
  refine Goes.by (fun _ k => XS.l2i X0.here hx rfl (hb hby at_10) rfl k) ?_
  show Goes p.tables e below (s₁.setTop (mkF m 11 #[.val (.int ps), .val (.int pe), .val (.int pd), .val (.int ps2), .val (.int pe2), .val (.long pp), .second, .val (.int x1), .unset, .unset, .unset, .unset, .unset, .unset, .unset, .unset, .unset, .unset] [(.int (((pp.toUInt64 >>> ((32 : Int32) &&& 0x3f).toInt64.toUInt64).toInt64).toInt32))])) _
  obtain ⟨x2, hx2⟩ : ∃ z : Int32, z = (((pp.toUInt64 >>> ((32 : Int32) &&& 0x3f).toInt64.toUInt64).toInt64).toInt32) := ⟨_, rfl⟩
  refine Goes.by (fun _ k => XS.istore X0.here hx rfl (hb hby at_11) rfl (l' := #[.val (.int ps), .val (.int pe), .val (.int pd), .val (.int ps2), .val (.int pe2), .val (.long pp), .second, .val (.int x1), .val (.int x2), .unset, .unset, .unset, .unset, .unset, .unset, .unset, .unset, .unset]) (by rw [hx2]; rfl) k) ?_
  show Goes p.tables e below (s₁.setTop (mkF m 13 #[.val (.int ps), .val (.int pe), .val (.int pd), .val (.int ps2), .val (.int pe2), .val (.long pp), .second, .val (.int x1), .val (.int x2), .unset, .unset, .unset, .unset, .unset, .unset, .unset, .unset, .unset] [])) _
  refine Goes.by (fun _ k => XS.iload X0.here hx rfl (hb hby at_13) rfl k) ?_
  show Goes p.tables e below (s₁.setTop (mkF m 15 #[.val (.int ps), .val (.int pe), .val (.int pd), .val (.int ps2), .val (.int pe2), .val (.long pp), .second, .val (.int x1), .val (.int x2), .unset, .unset, .unset, .unset, .unset, .unset, .unset, .unset, .unset] [(.int x2)])) _
  refine Goes.by (fun _ k => XS.iconst X0.here hx rfl (hb hby at_15) k) ?_
  show Goes p.tables e below (s₁.setTop (mkF m 16 #[.val (.int ps), .val (.int pe), .val (.int pd), .val (.int ps2), .val (.int pe2), .val (.long pp), .second, .val (.int x1), .val (.int x2), .unset, .unset, .unset, .unset, .unset, .unset, .unset, .unset, .unset] [(.int (1 : Int32)), (.int x2)])) _
  refine Goes.by (fun _ k => XS.iand X0.here hx rfl (hb hby at_16) rfl k) ?_
  show Goes p.tables e below (s₁.setTop (mkF m 17 #[.val (.int ps), .val (.int pe), .val (.int pd), .val (.int ps2), .val (.int pe2), .val (.long pp), .second, .val (.int x1), .val (.int x2), .unset, .unset, .unset, .unset, .unset, .unset, .unset, .unset, .unset] [(.int (x2 &&& (1 : Int32)))])) _
  obtain ⟨v3, hv3⟩ : ∃ z : Int32, z = (if (x2 &&& (1 : Int32)) = (0 : Int32) then ps2 else ps) := ⟨_, rfl⟩
  refine Goes.by (t' := s₁.setTop (mkF m 25 #[.val (.int ps), .val (.int pe), .val (.int pd), .val (.int ps2), .val (.int pe2), .val (.long pp), .second, .val (.int x1), .val (.int x2), .unset, .unset, .unset, .unset, .unset, .unset, .unset, .unset, .unset] [(.int v3)])) (fun u k => ?_) ?_
  · show Steps p.tables e below (s₁.setTop (mkF m 17 #[.val (.int ps), .val (.int pe), .val (.int pd), .val (.int ps2), .val (.int pe2), .val (.long pp), .second, .val (.int x1), .val (.int x2), .unset, .unset, .unset, .unset, .unset, .unset, .unset, .unset, .unset] [(.int (x2 &&& (1 : Int32)))])) _
    by_cases hc4 : (x2 &&& (1 : Int32)) = (0 : Int32)
    · refine XS.ifYes X0.here hx rfl (pc0 := 17) (pc' := 24) rfl (hb hby at_17) rfl ((if0 _ _).trans (teq hc4).1) (by decide) (by decide) ?_
      show Steps p.tables e below (s₁.setTop (mkF m 24 #[.val (.int ps), .val (.int pe), .val (.int pd), .val (.int ps2), .val (.int pe2), .val (.long pp), .second, .val (.int x1), .val (.int x2), .unset, .unset, .unset, .unset, .unset, .unset, .unset, .unset, .unset] [])) _
      refine XS.iloadN X0.here hx rfl (hb hby at_24) rfl ?_
      show Steps p.tables e below (s₁.setTop (mkF m 25 #[.val (.int ps), .val (.int pe), .val (.int pd), .val (.int ps2), .val (.int pe2), .val (.long pp), .second, .val (.int x1), .val (.int x2), .unset, .unset, .unset, .unset, .unset, .unset, .unset, .unset, .unset] [(.int ps2)])) _
      have qv3 : v3 = ps2 := by rw [hv3, if_pos hc4]
      subst qv3
      exact k
    · refine XS.ifNo X0.here hx rfl (hb hby at_17) rfl ((if0 _ _).trans (feq hc4).1) ?_
      show Steps p.tables e below (s₁.setTop (mkF m 20 #[.val (.int ps), .val (.int pe), .val (.int pd), .val (.int ps2), .val (.int pe2), .val (.long pp), .second, .val (.int x1), .val (.int x2), .unset, .unset, .unset, .unset, .unset, .unset, .unset, .unset, .unset] [])) _
      refine XS.iloadN X0.here hx rfl (hb hby at_20) rfl ?_
      show Steps p.tables e below (s₁.setTop (mkF m 21 #[.val (.int ps), .val (.int pe), .val (.int pd), .val (.int ps2), .val (.int pe2), .val (.long pp), .second, .val (.int x1), .val (.int x2), .unset, .unset, .unset, .unset, .unset, .unset, .unset, .unset, .unset] [(.int ps)])) _
      refine XS.goto X0.here hx rfl (pc0 := 21) (pc' := 25) rfl (hb hby at_21) (by decide) (by decide) ?_
      show Steps p.tables e below (s₁.setTop (mkF m 25 #[.val (.int ps), .val (.int pe), .val (.int pd), .val (.int ps2), .val (.int pe2), .val (.long pp), .second, .val (.int x1), .val (.int x2), .unset, .unset, .unset, .unset, .unset, .unset, .unset, .unset, .unset] [(.int ps)])) _
      have qv3 : v3 = ps := by rw [hv3, if_neg hc4]
      subst qv3
      exact k
  show Goes p.tables e below (s₁.setTop (mkF m 25 #[.val (.int ps), .val (.int pe), .val (.int pd), .val (.int ps2), .val (.int pe2), .val (.long pp), .second, .val (.int x1), .val (.int x2), .unset, .unset, .unset, .unset, .unset, .unset, .unset, .unset, .unset] [(.int v3)])) _
  refine Goes.by (fun _ k => XS.istore X0.here hx rfl (hb hby at_25) rfl (l' := #[.val (.int ps), .val (.int pe), .val (.int pd), .val (.int ps2), .val (.int pe2), .val (.long pp), .second, .val (.int x1), .val (.int x2), .val (.int v3), .unset, .unset, .unset, .unset, .unset, .unset, .unset, .unset]) rfl k) ?_
  show Goes p.tables e below (s₁.setTop (mkF m 27 #[.val (.int ps), .val (.int pe), .val (.int pd), .val (.int ps2), .val (.int pe2), .val (.long pp), .second, .val (.int x1), .val (.int x2), .val (.int v3), .unset, .unset, .unset, .unset, .unset, .unset, .unset, .unset] [])) _
  refine Goes.by (fun _ k => XS.iload X0.here hx rfl (hb hby at_27) rfl k) ?_
  show Goes p.tables e below (s₁.setTop (mkF m 29 #[.val (.int ps), .val (.int pe), .val (.int pd), .val (.int ps2), .val (.int pe2), .val (.long pp), .second, .val (.int x1), .val (.int x2), .val (.int v3), .unset, .unset, .unset, .unset, .unset, .unset, .unset, .unset] [(.int x2)])) _
  refine Goes.by (fun _ k => XS.iconst X0.here hx rfl (hb hby at_29) k) ?_
  show Goes p.tables e below (s₁.setTop (mkF m 30 #[.val (.int ps), .val (.int pe), .val (.int pd), .val (.int ps2), .val (.int pe2), .val (.long pp), .second, .val (.int x1), .val (.int x2), .val (.int v3), .unset, .unset, .unset, .unset, .unset, .unset, .unset, .unset] [(.int (2 : Int32)), (.int x2)])) _
  refine Goes.by (fun _ k => XS.iand X0.here hx rfl (hb hby at_30) rfl k) ?_
  show Goes p.tables e below (s₁.setTop (mkF m 31 #[.val (.int ps), .val (.int pe), .val (.int pd), .val (.int ps2), .val (.int pe2), .val (.long pp), .second, .val (.int x1), .val (.int x2), .val (.int v3), .unset, .unset, .unset, .unset, .unset, .unset, .unset, .unset] [(.int (x2 &&& (2 : Int32)))])) _
  obtain ⟨v5, hv5⟩ : ∃ z : Int32, z = (if (x2 &&& (2 : Int32)) = (0 : Int32) then pe2 else pe) := ⟨_, rfl⟩
  refine Goes.by (t' := s₁.setTop (mkF m 40 #[.val (.int ps), .val (.int pe), .val (.int pd), .val (.int ps2), .val (.int pe2), .val (.long pp), .second, .val (.int x1), .val (.int x2), .val (.int v3), .unset, .unset, .unset, .unset, .unset, .unset, .unset, .unset] [(.int v5)])) (fun u k => ?_) ?_
  · show Steps p.tables e below (s₁.setTop (mkF m 31 #[.val (.int ps), .val (.int pe), .val (.int pd), .val (.int ps2), .val (.int pe2), .val (.long pp), .second, .val (.int x1), .val (.int x2), .val (.int v3), .unset, .unset, .unset, .unset, .unset, .unset, .unset, .unset] [(.int (x2 &&& (2 : Int32)))])) _
    by_cases hc6 : (x2 &&& (2 : Int32)) = (0 : Int32)
    · refine XS.ifYes X0.here hx rfl (pc0 := 31) (pc' := 38) rfl (hb hby at_31) rfl ((if0 _ _).trans (teq hc6).1) (by decide) (by decide) ?_
      show Steps p.tables e below (s₁.setTop (mkF m 38 #[.val (.int ps), .val (.int pe), .val (.int pd), .val (.int ps2), .val (.int pe2), .val (.long pp), .second, .val (.int x1), .val (.int x2), .val (.int v3), .unset, .unset, .unset, .unset, .unset, .unset, .unset, .unset] [])) _
      refine XS.iload X0.here hx rfl (hb hby at_38) rfl ?_
      show Steps p.tables e below (s₁.setTop (mkF m 40 #[.val (.int ps), .val (.int pe), .val (.int pd), .val (.int ps2), .val (.int pe2), .val (.long pp), .second, .val (.int x1), .val (.int x2), .val (.int v3), .unset, .unset, .unset, .unset, .unset, .unset, .unset, .unset] [(.int pe2)])) _
      have qv5 : v5 = pe2 := by rw [hv5, if_pos hc6]
      subst qv5
      exact k
    · refine XS.ifNo X0.here hx rfl (hb hby at_31) rfl ((if0 _ _).trans (feq hc6).1) ?_
      show Steps p.tables e below (s₁.setTop (mkF m 34 #[.val (.int ps), .val (.int pe), .val (.int pd), .val (.int ps2), .val (.int pe2), .val (.long pp), .second, .val (.int x1), .val (.int x2), .val (.int v3), .unset, .unset, .unset, .unset, .unset, .unset, .unset, .unset] [])) _
      refine XS.iloadN X0.here hx rfl (hb hby at_34) rfl ?_
      show Steps p.tables e below (s₁.setTop (mkF m 35 #[.val (.int ps), .val (.int pe), .val (.int pd), .val (.int ps2), .val (.int pe2), .val (.long pp), .second, .val (.int x1), .val (.int x2), .val (.int v3), .unset, .unset, .unset, .unset, .unset, .unset, .unset, .unset] [(.int pe)])) _
      refine XS.goto X0.here hx rfl (pc0 := 35) (pc' := 40) rfl (hb hby at_35) (by decide) (by decide) ?_
      show Steps p.tables e below (s₁.setTop (mkF m 40 #[.val (.int ps), .val (.int pe), .val (.int pd), .val (.int ps2), .val (.int pe2), .val (.long pp), .second, .val (.int x1), .val (.int x2), .val (.int v3), .unset, .unset, .unset, .unset, .unset, .unset, .unset, .unset] [(.int pe)])) _
      have qv5 : v5 = pe := by rw [hv5, if_neg hc6]
      subst qv5
      exact k
  show Goes p.tables e below (s₁.setTop (mkF m 40 #[.val (.int ps), .val (.int pe), .val (.int pd), .val (.int ps2), .val (.int pe2), .val (.long pp), .second, .val (.int x1), .val (.int x2), .val (.int v3), .unset, .unset, .unset, .unset, .unset, .unset, .unset, .unset] [(.int v5)])) _
  refine Goes.by (fun _ k => XS.istore X0.here hx rfl (hb hby at_40) rfl (l' := #[.val (.int ps), .val (.int pe), .val (.int pd), .val (.int ps2), .val (.int pe2), .val (.long pp), .second, .val (.int x1), .val (.int x2), .val (.int v3), .val (.int v5), .unset, .unset, .unset, .unset, .unset, .unset, .unset]) rfl k) ?_
  show Goes p.tables e below (s₁.setTop (mkF m 42 #[.val (.int ps), .val (.int pe), .val (.int pd), .val (.int ps2), .val (.int pe2), .val (.long pp), .second, .val (.int x1), .val (.int x2), .val (.int v3), .val (.int v5), .unset, .unset, .unset, .unset, .unset, .unset, .unset] [])) _
  refine Goes.by (fun _ k => XS.iload X0.here hx rfl (hb hby at_42) rfl k) ?_
  show Goes p.tables e below (s₁.setTop (mkF m 44 #[.val (.int ps), .val (.int pe), .val (.int pd), .val (.int ps2), .val (.int pe2), .val (.long pp), .second, .val (.int x1), .val (.int x2), .val (.int v3), .val (.int v5), .unset, .unset, .unset, .unset, .unset, .unset, .unset] [(.int x2)])) _
  refine Goes.by (fun _ k => XS.iconst X0.here hx rfl (hb hby at_44) k) ?_
  show Goes p.tables e below (s₁.setTop (mkF m 45 #[.val (.int ps), .val (.int pe), .val (.int pd), .val (.int ps2), .val (.int pe2), .val (.long pp), .second, .val (.int x1), .val (.int x2), .val (.int v3), .val (.int v5), .unset, .unset, .unset, .unset, .unset, .unset, .unset] [(.int (4 : Int32)), (.int x2)])) _
  refine Goes.by (fun _ k => XS.iand X0.here hx rfl (hb hby at_45) rfl k) ?_
  show Goes p.tables e below (s₁.setTop (mkF m 46 #[.val (.int ps), .val (.int pe), .val (.int pd), .val (.int ps2), .val (.int pe2), .val (.long pp), .second, .val (.int x1), .val (.int x2), .val (.int v3), .val (.int v5), .unset, .unset, .unset, .unset, .unset, .unset, .unset] [(.int (x2 &&& (4 : Int32)))])) _
  obtain ⟨v7, hv7⟩ : ∃ z : Int32, z = (if (x2 &&& (4 : Int32)) = (0 : Int32) then x1 else pd) := ⟨_, rfl⟩
  refine Goes.by (t' := s₁.setTop (mkF m 55 #[.val (.int ps), .val (.int pe), .val (.int pd), .val (.int ps2), .val (.int pe2), .val (.long pp), .second, .val (.int x1), .val (.int x2), .val (.int v3), .val (.int v5), .unset, .unset, .unset, .unset, .unset, .unset, .unset] [(.int v7)])) (fun u k => ?_) ?_
  · show Steps p.tables e below (s₁.setTop (mkF m 46 #[.val (.int ps), .val (.int pe), .val (.int pd), .val (.int ps2), .val (.int pe2), .val (.long pp), .second, .val (.int x1), .val (.int x2), .val (.int v3), .val (.int v5), .unset, .unset, .unset, .unset, .unset, .unset, .unset] [(.int (x2 &&& (4 : Int32)))])) _
    by_cases hc8 : (x2 &&& (4 : Int32)) = (0 : Int32)
    · refine XS.ifYes X0.here hx rfl (pc0 := 46) (pc' := 53) rfl (hb hby at_46) rfl ((if0 _ _).trans (teq hc8).1) (by decide) (by decide) ?_
      show Steps p.tables e below (s₁.setTop (mkF m 53 #[.val (.int ps), .val (.int pe), .val (.int pd), .val (.int ps2), .val (.int pe2), .val (.long pp), .second, .val (.int x1), .val (.int x2), .val (.int v3), .val (.int v5), .unset, .unset, .unset, .unset, .unset, .unset, .unset] [])) _
      refine XS.iload X0.here hx rfl (hb hby at_53) rfl ?_
      show Steps p.tables e below (s₁.setTop (mkF m 55 #[.val (.int ps), .val (.int pe), .val (.int pd), .val (.int ps2), .val (.int pe2), .val (.long pp), .second, .val (.int x1), .val (.int x2), .val (.int v3), .val (.int v5), .unset, .unset, .unset, .unset, .unset, .unset, .unset] [(.int x1)])) _
      have qv7 : v7 = x1 := by rw [hv7, if_pos hc8]
      subst qv7
      exact k
    · refine XS.ifNo X0.here hx rfl (hb hby at_46) rfl ((if0 _ _).trans (feq hc8).1) ?_
      show Steps p.tables e below (s₁.setTop (mkF m 49 #[.val (.int ps), .val (.int pe), .val (.int pd), .val (.int ps2), .val (.int pe2), .val (.long pp), .second, .val (.int x1), .val (.int x2), .val (.int v3), .val (.int v5), .unset, .unset, .unset, .unset, .unset, .unset, .unset] [])) _
      refine XS.iloadN X0.here hx rfl (hb hby at_49) rfl ?_
      show Steps p.tables e below (s₁.setTop (mkF m 50 #[.val (.int ps), .val (.int pe), .val (.int pd), .val (.int ps2), .val (.int pe2), .val (.long pp), .second, .val (.int x1), .val (.int x2), .val (.int v3), .val (.int v5), .unset, .unset, .unset, .unset, .unset, .unset, .unset] [(.int pd)])) _
      refine XS.goto X0.here hx rfl (pc0 := 50) (pc' := 55) rfl (hb hby at_50) (by decide) (by decide) ?_
      show Steps p.tables e below (s₁.setTop (mkF m 55 #[.val (.int ps), .val (.int pe), .val (.int pd), .val (.int ps2), .val (.int pe2), .val (.long pp), .second, .val (.int x1), .val (.int x2), .val (.int v3), .val (.int v5), .unset, .unset, .unset, .unset, .unset, .unset, .unset] [(.int pd)])) _
      have qv7 : v7 = pd := by rw [hv7, if_neg hc8]
      subst qv7
      exact k
  show Goes p.tables e below (s₁.setTop (mkF m 55 #[.val (.int ps), .val (.int pe), .val (.int pd), .val (.int ps2), .val (.int pe2), .val (.long pp), .second, .val (.int x1), .val (.int x2), .val (.int v3), .val (.int v5), .unset, .unset, .unset, .unset, .unset, .unset, .unset] [(.int v7)])) _
  refine Goes.by (fun _ k => XS.istore X0.here hx rfl (hb hby at_55) rfl (l' := #[.val (.int ps), .val (.int pe), .val (.int pd), .val (.int ps2), .val (.int pe2), .val (.long pp), .second, .val (.int x1), .val (.int x2), .val (.int v3), .val (.int v5), .val (.int v7), .unset, .unset, .unset, .unset, .unset, .unset]) rfl k) ?_
  show Goes p.tables e below (s₁.setTop (mkF m 57 #[.val (.int ps), .val (.int pe), .val (.int pd), .val (.int ps2), .val (.int pe2), .val (.long pp), .second, .val (.int x1), .val (.int x2), .val (.int v3), .val (.int v5), .val (.int v7), .unset, .unset, .unset, .unset, .unset, .unset] [])) _
  refine Goes.by (fun _ k => XS.iload X0.here hx rfl (hb hby at_57) rfl k) ?_
  show Goes p.tables e below (s₁.setTop (mkF m 59 #[.val (.int ps), .val (.int pe), .val (.int pd), .val (.int ps2), .val (.int pe2), .val (.long pp), .second, .val (.int x1), .val (.int x2), .val (.int v3), .val (.int v5), .val (.int v7), .unset, .unset, .unset, .unset, .unset, .unset] [(.int x2)])) _
  refine Goes.by (fun _ k => XS.iconst X0.here hx rfl (hb hby at_59) k) ?_
  show Goes p.tables e below (s₁.setTop (mkF m 60 #[.val (.int ps), .val (.int pe), .val (.int pd), .val (.int ps2), .val (.int pe2), .val (.long pp), .second, .val (.int x1), .val (.int x2), .val (.int v3), .val (.int v5), .val (.int v7), .unset, .unset, .unset, .unset, .unset, .unset] [(.int (3 : Int32)), (.int x2)])) _
  refine Goes.by (fun _ k => XS.iushr X0.here hx rfl (hb hby at_60) rfl k) ?_
  show Goes p.tables e below (s₁.setTop (mkF m 61 #[.val (.int ps), .val (.int pe), .val (.int pd), .val (.int ps2), .val (.int pe2), .val (.long pp), .second, .val (.int x1), .val (.int x2), .val (.int v3), .val (.int v5), .val (.int v7), .unset, .unset, .unset, .unset, .unset, .unset] [(.int ((x2.toUInt32 >>> ((3 : Int32) &&& 31).toUInt32).toInt32))])) _
  refine Goes.by (fun _ k => XS.iconst X0.here hx rfl (hb hby at_61) k) ?_
  show Goes p.tables e below (s₁.setTop (mkF m 62 #[.val (.int ps), .val (.int pe), .val (.int pd), .val (.int ps2), .val (.int pe2), .val (.long pp), .second, .val (.int x1), .val (.int x2), .val (.int v3), .val (.int v5), .val (.int v7), .unset, .unset, .unset, .unset, .unset, .unset] [(.int (3 : Int32)), (.int ((x2.toUInt32 >>> ((3 : Int32) &&& 31).toUInt32).toInt32))])) _
  refine Goes.by (fun _ k => XS.iand X0.here hx rfl (hb hby at_62) rfl k) ?_
  show Goes p.tables e below (s₁.setTop (mkF m 63 #[.val (.int ps), .val (.int pe), .val (.int pd), .val (.int ps2), .val (.int pe2), .val (.long pp), .second, .val (.int x1), .val (.int x2), .val (.int v3), .val (.int v5), .val (.int v7), .unset, .unset, .unset, .unset, .unset, .unset] [(.int (((x2.toUInt32 >>> ((3 : Int32) &&& 31).toUInt32).toInt32) &&& (3 : Int32)))])) _
  obtain ⟨x9, hx9⟩ : ∃ z : Int32, z = (((x2.toUInt32 >>> ((3 : Int32) &&& 31).toUInt32).toInt32) &&& (3 : Int32)) := ⟨_, rfl⟩
  refine Goes.by (fun _ k => XS.istore X0.here hx rfl (hb hby at_63) rfl (l' := #[.val (.int ps), .val (.int pe), .val (.int pd), .val (.int ps2), .val (.int pe2), .val (.long pp), .second, .val (.int x1), .val (.int x2), .val (.int v3), .val (.int v5), .val (.int v7), .val (.int x9), .unset, .unset, .unset, .unset, .unset]) (by rw [hx9]; rfl) k) ?_
  show Goes p.tables e below (s₁.setTop (mkF m 65 #[.val (.int ps), .val (.int pe), .val (.int pd), .val (.int ps2), .val (.int pe2), .val (.long pp), .second, .val (.int x1), .val (.int x2), .val (.int v3), .val (.int v5), .val (.int v7), .val (.int x9), .unset, .unset, .unset, .unset, .unset] [])) _
  obtain ⟨T10, h10, X10, e10, E10, A10, D10, -, st10⟩ := newO X0 hx hZ hown (hw _ (List.mem_of_getElem? (i := 0) rfl)) (hw _ (List.mem_of_getElem? (i := 1) rfl)) (hw _ (List.mem_of_getElem? (i := 2) rfl)) e0 (g := (mkF m 65 #[.val (.int ps), .val (.int pe), .val (.int pd), .val (.int ps2), .val (.int pe2), .val (.long pp), .second, .val (.int x1), .val (.int x2), .val (.int v3), .val (.int v5), .val (.int v7), .val (.int x9), .unset, .unset, .unset, .unset, .unset] [])) rfl (hb hby at_65) (by decide) (by decide)
  obtain ⟨b10, g10⟩ : ∃ z, z = h0.size := ⟨_, rfl⟩
  rw [← g10] at A10 D10 st10
  have g_b10 : n0 ≤ b10 := Nat.le_trans Z0 (Nat.le_of_eq g10.symm)
  have sz_b10 : h0.size ≤ b10 := Nat.le_trans (Keep.refl h0 []).1 (Nat.le_of_eq g10.symm)
  have Zs10 : n0 ≤ h10.size := Nat.le_trans Z0 E10.1
  have K10 : Keep h0 h10 [] := (Keep.refl h0 []).ext E10
  refine Goes.by st10 ?_
  have O : Old Z n0 h10 := O.ext E10
  have E_b10 : Exa Z h10 b10 "com/example/treewrite/treewrite/document/Identifier" := A10
  have F_b10_start : Fld Z h10 b10 "com/example/treewrite/treewrite/document/Identifier" "start" "I" (.int (0 : Int32)) := D10 (Or.inr (hw _ (List.mem_of_getElem? (i := 15) rfl))) (ty := .int) (by decide)
  have F_b10_end : Fld Z h10 b10 "com/example/treewrite/treewrite/document/Identifier" "end" "I" (.int (0 : Int32)) := D10 (Or.inr (hw _ (List.mem_of_getElem? (i := 17) rfl))) (ty := .int) (by decide)
  have F_b10_depth : Fld Z h10 b10 "com/example/treewrite/treewrite/document/Identifier" "depth" "I" (.int (0 : Int32)) := D10 (Or.inr (hw _ (List.mem_of_getElem? (i := 19) rfl))) (ty := .int) (by decide)
  show Goes p.tables e below (T10.setTop (mkF m 68 #[.val (.int ps), .val (.int pe), .val (.int pd), .val (.int ps2), .val (.int pe2), .val (.long pp), .second, .val (.int x1), .val (.int x2), .val (.int v3), .val (.int v5), .val (.int v7), .val (.int x9), .unset, .unset, .unset, .unset, .unset] [(.ref b10)])) _
  refine Goes.by (fun _ k => XS.dup X10.here hx rfl (hb hby at_68) rfl rfl k) ?_
  show Goes p.tables e below (T10.setTop (mkF m 69 #[.val (.int ps), .val (.int pe), .val (.int pd), .val (.int ps2), .val (.int pe2), .val (.long pp), .second, .val (.int x1), .val (.int x2), .val (.int v3), .val (.int v5), .val (.int v7), .val (.int x9), .unset, .unset, .unset, .unset, .unset] [(.ref b10), (.ref b10)])) _
  refine Goes.by (fun _ k => XS.iloadN X10.here hx rfl (hb hby at_69) rfl k) ?_
  show Goes p.tables e below (T10.setTop (mkF m 70 #[.val (.int ps), .val (.int pe), .val (.int pd), .val (.int ps2), .val (.int pe2), .val (.long pp), .second, .val (.int x1), .val (.int x2), .val (.int v3), .val (.int v5), .val (.int v7), .val (.int x9), .unset, .unset, .unset, .unset, .unset] [(.int ps), (.ref b10), (.ref b10)])) _
  refine Goes.by (fun _ k => XS.iloadN X10.here hx rfl (hb hby at_70) rfl k) ?_
  show Goes p.tables e below (T10.setTop (mkF m 71 #[.val (.int ps), .val (.int pe), .val (.int pd), .val (.int ps2), .val (.int pe2), .val (.long pp), .second, .val (.int x1), .val (.int x2), .val (.int v3), .val (.int v5), .val (.int v7), .val (.int x9), .unset, .unset, .unset, .unset, .unset] [(.int pe), (.int ps), (.ref b10), (.ref b10)])) _
  refine Goes.by (fun _ k => XS.iloadN X10.here hx rfl (hb hby at_71) rfl k) ?_
  show Goes p.tables e below (T10.setTop (mkF m 72 #[.val (.int ps), .val (.int pe), .val (.int pd), .val (.int ps2), .val (.int pe2), .val (.long pp), .second, .val (.int x1), .val (.int x2), .val (.int v3), .val (.int v5), .val (.int v7), .val (.int x9), .unset, .unset, .unset, .unset, .unset] [(.int pd), (.int pe), (.int ps), (.ref b10), (.ref b10)])) _
  obtain ⟨_, _, ⟨T11, L11, k11, n11⟩, -, X11, ⟨Lc11, hQ11, l11, y11, z11⟩, st11⟩ := X10.specialBack hx (y := (⟨"com/example/treewrite/treewrite/document/Identifier", "<init>", "(III)V"⟩ : MethodName)) rfl hown (mvT hZ (hw _ (List.mem_of_getElem? (i := 3) rfl))) (mvT hZ (hw _ (List.mem_of_getElem? (i := 4) rfl))) (mvT hZ (hw _ (List.mem_of_getElem? (i := 5) rfl))) (by decide) (backOf (W := 1) (rm1 l Z a0 hw [] b10 ps pe pd h10 n0 Zs10 E_b10 F_b10_start F_b10_end F_b10_depth g_b10) hZ (hw _ (List.mem_of_getElem? (i := 5) rfl)) (hw _ (List.mem_of_getElem? (i := 2) rfl)) (by decide) (by decide)) (g := (mkF m 72 #[.val (.int ps), .val (.int pe), .val (.int pd), .val (.int ps2), .val (.int pe2), .val (.long pp), .second, .val (.int x1), .val (.int x2), .val (.int v3), .val (.int v5), .val (.int v7), .val (.int x9), .unset, .unset, .unset, .unset, .unset] [(.int pd), (.int pe), (.int ps), (.ref b10), (.ref b10)])) rfl (by rw [hml]; rfl) (Steps.refl _) (a := b10) (argsL := [(.int ps), (.int pe), (.int pd)]) (rest := [(.ref b10)]) (lenOf pd_2 rfl) rfl (by show 2 * 0 + _ ≤ _; exact Nat.le_of_eq rfl) (hb hby at_72) (fun _ _ => ⟨rfl, e10, (by decide : 1 + 0 ≤ _), (by decide : 3 + 0 ≤ _)⟩)
  dsimp only [Pt.U, Pt.locs, Pt.cells, Pt.slots] at X11 l11 y11 z11 st11 hQ11
  subst l11 y11 z11
  obtain ⟨rfl, N11q, Kq11, po11_0, po11_1, po11_2, po11_3⟩ := hQ11
  have N11 := Fr.app N0 N11q
  refine Goes.via st11 ?_
  have Zs11 : n0 ≤ T11.heap.size := Nat.le_trans Zs10 Kq11.1
  have K11 : Keep h0 T11.heap [] := K10.trans Kq11 (allS (Or.inr sz_b10) all0)
  have O : Old Z n0 T11.heap := O.keep Kq11 (allS g_b10 all0)
  have E_b10 : Exa Z T11.heap b10 "com/example/treewrite/treewrite/document/Identifier" := E_b10.keep Kq11
  have E_b10 : Exa Z T11.heap b10 "com/example/treewrite/treewrite/document/Identifier" := po11_0
  have F_b10_start : Fld Z T11.heap b10 "com/example/treewrite/treewrite/document/Identifier" "start" "I" (.int ps) := po11_1
  have F_b10_end : Fld Z T11.heap b10 "com/example/treewrite/treewrite/document/Identifier" "end" "I" (.int pe) := po11_2
  have F_b10_depth : Fld Z T11.heap b10 "com/example/treewrite/treewrite/document/Identifier" "depth" "I" (.int pd) := po11_3
  show Goes p.tables e below (T11.setTop (mkF m 75 #[.val (.int ps), .val (.int pe), .val (.int pd), .val (.int ps2), .val (.int pe2), .val (.long pp), .second, .val (.int x1), .val (.int x2), .val (.int v3), .val (.int v5), .val (.int v7), .val (.int x9), .unset, .unset, .unset, .unset, .unset] [(.ref b10)])) _
  refine Goes.by (fun _ k => XS.astore X11.here hx rfl (hb hby at_75) rfl rfl (l' := #[.val (.int ps), .val (.int pe), .val (.int pd), .val (.int ps2), .val (.int pe2), .val (.long pp), .second, .val (.int x1), .val (.int x2), .val (.int v3), .val (.int v5), .val (.int v7), .val (.int x9), .val (.ref b10), .unset, .unset, .unset, .unset]) rfl k) ?_
  show Goes p.tables e below (T11.setTop (mkF m 77 #[.val (.int ps), .val (.int pe), .val (.int pd), .val (.int ps2), .val (.int pe2), .val (.long pp), .second, .val (.int x1), .val (.int x2), .val (.int v3), .val (.int v5), .val (.int v7), .val (.int x9), .val (.ref b10), .unset, .unset, .unset, .unset] [])) _
  obtain ⟨T12, h12, X12, e12, E12, A12, D12, -, st12⟩ := newO X11 hx hZ hown (hw _ (List.mem_of_getElem? (i := 0) rfl)) (hw _ (List.mem_of_getElem? (i := 1) rfl)) (hw _ (List.mem_of_getElem? (i := 2) rfl)) rfl (g := (mkF m 77 #[.val (.int ps), .val (.int pe), .val (.int pd), .val (.int ps2), .val (.int pe2), .val (.long pp), .second, .val (.int x1), .val (.int x2), .val (.int v3), .val (.int v5), .val (.int v7), .val (.int x9), .val (.ref b10), .unset, .unset, .unset, .unset] [])) rfl (hb hby at_77) (by decide) (by decide)
  obtain ⟨b12, g12⟩ : ∃ z, z = T11.heap.size := ⟨_, rfl⟩
  rw [← g12] at A12 D12 st12
  have g_b12 : n0 ≤ b12 := Nat.le_trans Zs11 (Nat.le_of_eq g12.symm)
  have sz_b12 : h0.size ≤ b12 := Nat.le_trans K11.1 (Nat.le_of_eq g12.symm)
  have ne_b10_b12 : b10 ≠ b12 := Nat.ne_of_lt (Nat.lt_of_lt_of_le E_b10.lt (Nat.le_of_eq g12.symm))
  have Zs12 : n0 ≤ h12.size := Nat.le_trans Zs11 E12.1
  have K12 : Keep h0 h12 [] := K11.ext E12
  refine Goes.by st12 ?_
  have O : Old Z n0 h12 := O.ext E12
  have E_b10 : Exa Z h12 b10 "com/example/treewrite/treewrite/document/Identifier" := E_b10.ext E12
  have F_b10_start : Fld Z h12 b10 "com/example/treewrite/treewrite/document/Identifier" "start" "I" (.int ps) := F_b10_start.ext E12
  have F_b10_end : Fld Z h12 b10 "com/example/treewrite/treewrite/document/Identifier" "end" "I" (.int pe) := F_b10_end.ext E12
  have F_b10_depth : Fld Z h12 b10 "com/example/treewrite/treewrite/document/Identifier" "depth" "I" (.int pd) := F_b10_depth.ext E12
  have E_b12 : Exa Z h12 b12 "com/example/treewrite/treewrite/document/Identifier" := A12
  have F_b12_start : Fld Z h12 b12 "com/example/treewrite/treewrite/document/Identifier" "start" "I" (.int (0 : Int32)) := D12 (Or.inr (hw _ (List.mem_of_getElem? (i := 15) rfl))) (ty := .int) (by decide)
  have F_b12_end : Fld Z h12 b12 "com/example/treewrite/treewrite/document/Identifier" "end" "I" (.int (0 : Int32)) := D12 (Or.inr (hw _ (List.mem_of_getElem? (i := 17) rfl))) (ty := .int) (by decide)
  have F_b12_depth : Fld Z h12 b12 "com/example/treewrite/treewrite/document/Identifier" "depth" "I" (.int (0 : Int32)) := D12 (Or.inr (hw _ (List.mem_of_getElem? (i := 19) rfl))) (ty := .int) (by decide)
  show Goes p.tables e below (T12.setTop (mkF m 80 #[.val (.int ps), .val (.int pe), .val (.int pd), .val (.int ps2), .val (.int pe2), .val (.long pp), .second, .val (.int x1), .val (.int x2), .val (.int v3), .val (.int v5), .val (.int v7), .val (.int x9), .val (.ref b10), .unset, .unset, .unset, .unset] [(.ref b12)])) _
  refine Goes.by (fun _ k => XS.dup X12.here hx rfl (hb hby at_80) rfl rfl k) ?_
  show Goes p.tables e below (T12.setTop (mkF m 81 #[.val (.int ps), .val (.int pe), .val (.int pd), .val (.int ps2), .val (.int pe2), .val (.long pp), .second, .val (.int x1), .val (.int x2), .val (.int v3), .val (.int v5), .val (.int v7), .val (.int x9), .val (.ref b10), .unset, .unset, .unset, .unset] [(.ref b12), (.ref b12)])) _
  refine Goes.by (fun _ k => XS.iload X12.here hx rfl (hb hby at_81) rfl k) ?_
  show Goes p.tables e below (T12.setTop (mkF m 83 #[.val (.int ps), .val (.int pe), .val (.int pd), .val (.int ps2), .val (.int pe2), .val (.long pp), .second, .val (.int x1), .val (.int x2), .val (.int v3), .val (.int v5), .val (.int v7), .val (.int x9), .val (.ref b10), .unset, .unset, .unset, .unset] [(.int v3), (.ref b12), (.ref b12)])) _
  refine Goes.by (fun _ k => XS.iload X12.here hx rfl (hb hby at_83) rfl k) ?_
  show Goes p.tables e below (T12.setTop (mkF m 85 #[.val (.int ps), .val (.int pe), .val (.int pd), .val (.int ps2), .val (.int pe2), .val (.long pp), .second, .val (.int x1), .val (.int x2), .val (.int v3), .val (.int v5), .val (.int v7), .val (.int x9), .val (.ref b10), .unset, .unset, .unset, .unset] [(.int v5), (.int v3), (.ref b12), (.ref b12)])) _
  refine Goes.by (fun _ k => XS.iload X12.here hx rfl (hb hby at_85) rfl k) ?_
  show Goes p.tables e below (T12.setTop (mkF m 87 #[.val (.int ps), .val (.int pe), .val (.int pd), .val (.int ps2), .val (.int pe2), .val (.long pp), .second, .val (.int x1), .val (.int x2), .val (.int v3), .val (.int v5), .val (.int v7), .val (.int x9), .val (.ref b10), .unset, .unset, .unset, .unset] [(.int v7), (.int v5), (.int v3), (.ref b12), (.ref b12)])) _
  obtain ⟨_, _, ⟨T13, L13, k13, n13⟩, -, X13, ⟨Lc13, hQ13, l13, y13, z13⟩, st13⟩ := X12.specialBack hx (y := (⟨"com/example/treewrite/treewrite/document/Identifier", "<init>", "(III)V"⟩ : MethodName)) rfl hown (mvT hZ (hw _ (List.mem_of_getElem? (i := 3) rfl))) (mvT hZ (hw _ (List.mem_of_getElem? (i := 4) rfl))) (mvT hZ (hw _ (List.mem_of_getElem? (i := 5) rfl))) (by decide) (backOf (W := 1) (rm1 l Z a0 hw [] b12 v3 v5 v7 h12 n0 Zs12 E_b12 F_b12_start F_b12_end F_b12_depth g_b12) hZ (hw _ (List.mem_of_getElem? (i := 5) rfl)) (hw _ (List.mem_of_getElem? (i := 2) rfl)) (by decide) (by decide)) (g := (mkF m 87 #[.val (.int ps), .val (.int pe), .val (.int pd), .val (.int ps2), .val (.int pe2), .val (.long pp), .second, .val (.int x1), .val (.int x2), .val (.int v3), .val (.int v5), .val (.int v7), .val (.int x9), .val (.ref b10), .unset, .unset, .unset, .unset] [(.int v7), (.int v5), (.int v3), (.ref b12), (.ref b12)])) rfl (by rw [hml]; rfl) (Steps.refl _) (a := b12) (argsL := [(.int v3), (.int v5), (.int v7)]) (rest := [(.ref b12)]) (lenOf pd_2 rfl) rfl (by show 2 * 0 + _ ≤ _; exact Nat.le_of_eq rfl) (hb hby at_87) (fun _ _ => ⟨rfl, e12, (by decide : 2 + 0 ≤ _), (by decide : 6 + 0 ≤ _)⟩)
  dsimp only [Pt.U, Pt.locs, Pt.cells, Pt.slots] at X13 l13 y13 z13 st13 hQ13
  subst l13 y13 z13
  obtain ⟨rfl, N13q, Kq13, po13_0, po13_1, po13_2, po13_3⟩ := hQ13
  have N13 := Fr.app N11 N13q
  refine Goes.via st13 ?_
  have Zs13 : n0 ≤ T13.heap.size := Nat.le_trans Zs12 Kq13.1
  have K13 : Keep h0 T13.heap [] := K12.trans Kq13 (allS (Or.inr sz_b12) all0)
  have O : Old Z n0 T13.heap := O.keep Kq13 (allS g_b12 all0)
  have E_b10 : Exa Z T13.heap b10 "com/example/treewrite/treewrite/document/Identifier" := E_b10.keep Kq13
  have F_b10_start : Fld Z T13.heap b10 "com/example/treewrite/treewrite/document/Identifier" "start" "I" (.int ps) := F_b10_start.keep Kq13 (ninS ne_b10_b12 nin0)
  have F_b10_end : Fld Z T13.heap b10 "com/example/treewrite/treewrite/document/Identifier" "end" "I" (.int pe) := F_b10_end.keep Kq13 (ninS ne_b10_b12 nin0)
  have F_b10_depth : Fld Z T13.heap b10 "com/example/treewrite/treewrite/document/Identifier" "depth" "I" (.int pd) := F_b10_depth.keep Kq13 (ninS ne_b10_b12 nin0)
  have E_b12 : Exa Z T13.heap b12 "com/example/treewrite/treewrite/document/Identifier" := E_b12.keep Kq13
  have E_b12 : Exa Z T13.heap b12 "com/example/treewrite/treewrite/document/Identifier" := po13_0
  have F_b12_start : Fld Z T13.heap b12 "com/example/treewrite/treewrite/document/Identifier" "start" "I" (.int v3) := po13_1
  have F_b12_end : Fld Z T13.heap b12 "com/example/treewrite/treewrite/document/Identifier" "end" "I" (.int v5) := po13_2
  have F_b12_depth : Fld Z T13.heap b12 "com/example/treewrite/treewrite/document/Identifier" "depth" "I" (.int v7) := po13_3
  show Goes p.tables e below (T13.setTop (mkF m 90 #[.val (.int ps), .val (.int pe), .val (.int pd), .val (.int ps2), .val (.int pe2), .val (.long pp), .second, .val (.int x1), .val (.int x2), .val (.int v3), .val (.int v5), .val (.int v7), .val (.int x9), .val (.ref b10), .unset, .unset, .unset, .unset] [(.ref b12)])) _
  refine Goes.by (fun _ k => XS.astore X13.here hx rfl (hb hby at_90) rfl rfl (l' := #[.val (.int ps), .val (.int pe), .val (.int pd), .val (.int ps2), .val (.int pe2), .val (.long pp), .second, .val (.int x1), .val (.int x2), .val (.int v3), .val (.int v5), .val (.int v7), .val (.int x9), .val (.ref b10), .val (.ref b12), .unset, .unset, .unset]) rfl k) ?_
  show Goes p.tables e below (T13.setTop (mkF m 92 #[.val (.int ps), .val (.int pe), .val (.int pd), .val (.int ps2), .val (.int pe2), .val (.long pp), .second, .val (.int x1), .val (.int x2), .val (.int v3), .val (.int v5), .val (.int v7), .val (.int x9), .val (.ref b10), .val (.ref b12), .unset, .unset, .unset] [])) _
  refine Goes.by (fun _ k => XS.iload X13.here hx rfl (hb hby at_92) rfl k) ?_
  show Goes p.tables e below (T13.setTop (mkF m 94 #[.val (.int ps), .val (.int pe), .val (.int pd), .val (.int ps2), .val (.int pe2), .val (.long pp), .second, .val (.int x1), .val (.int x2), .val (.int v3), .val (.int v5), .val (.int v7), .val (.int x9), .val (.ref b10), .val (.ref b12), .unset, .unset, .unset] [(.int x9)])) _
  refine Goes.by (fun _ k => XS.iconst X13.here hx rfl (hb hby at_94) k) ?_
  show Goes p.tables e below (T13.setTop (mkF m 95 #[.val (.int ps), .val (.int pe), .val (.int pd), .val (.int ps2), .val (.int pe2), .val (.long pp), .second, .val (.int x1), .val (.int x2), .val (.int v3), .val (.int v5), .val (.int v7), .val (.int x9), .val (.ref b10), .val (.ref b12), .unset, .unset, .unset] [(.int (2 : Int32)), (.int x9)])) _
  by_cases hc14 : x9 = (2 : Int32)
  · refine Goes.by (fun _ k => XS.icmpNo X13.here hx rfl (hb hby at_95) rfl (teq hc14).2 k) ?_
    show Goes p.tables e below (T13.setTop (mkF m 98 #[.val (.int ps), .val (.int pe), .val (.int pd), .val (.int ps2), .val (.int pe2), .val (.long pp), .second, .val (.int x1), .val (.int x2), .val (.int v3), .val (.int v5), .val (.int v7), .val (.int x9), .val (.ref b10), .val (.ref b12), .unset, .unset, .unset] [])) _
    refine Goes.by (fun _ k => XS.aconstNull X13.here hx rfl (hb hby at_98) k) ?_
    show Goes p.tables e below (T13.setTop (mkF m 99 #[.val (.int ps), .val (.int pe), .val (.int pd), .val (.int ps2), .val (.int pe2), .val (.long pp), .second, .val (.int x1), .val (.int x2), .val (.int v3), .val (.int v5), .val (.int v7), .val (.int x9), .val (.ref b10), .val (.ref b12), .unset, .unset, .unset] [.null])) _
    refine Goes.by (fun _ k => XS.astore X13.here hx rfl (hb hby at_99) rfl rfl (l' := #[.val (.int ps), .val (.int pe), .val (.int pd), .val (.int ps2), .val (.int pe2), .val (.long pp), .second, .val (.int x1), .val (.int x2), .val (.int v3), .val (.int v5), .val (.int v7), .val (.int x9), .val (.ref b10), .val (.ref b12), .val .null, .unset, .unset]) rfl k) ?_
    show Goes p.tables e below (T13.setTop (mkF m 101 #[.val (.int ps), .val (.int pe), .val (.int pd), .val (.int ps2), .val (.int pe2), .val (.long pp), .second, .val (.int x1), .val (.int x2), .val (.int v3), .val (.int v5), .val (.int v7), .val (.int x9), .val (.ref b10), .val (.ref b12), .val .null, .unset, .unset] [])) _
    refine Goes.by (fun _ k => XS.goto X13.here hx rfl (pc0 := 101) (pc' := 123) rfl (hb hby at_101) (by decide) (by decide) k) ?_
    show Goes p.tables e below (T13.setTop (mkF m 123 #[.val (.int ps), .val (.int pe), .val (.int pd), .val (.int ps2), .val (.int pe2), .val (.long pp), .second, .val (.int x1), .val (.int x2), .val (.int v3), .val (.int v5), .val (.int v7), .val (.int x9), .val (.ref b10), .val (.ref b12), .val .null, .unset, .unset] [])) _
    refine Goes.by (fun _ k => XS.iload X13.here hx rfl (hb hby at_123) rfl k) ?_
    show Goes p.tables e below (T13.setTop (mkF m 125 #[.val (.int ps), .val (.int pe), .val (.int pd), .val (.int ps2), .val (.int pe2), .val (.long pp), .second, .val (.int x1), .val (.int x2), .val (.int v3), .val (.int v5), .val (.int v7), .val (.int x9), .val (.ref b10), .val (.ref b12), .val .null, .unset, .unset] [(.int x9)])) _
    refine Goes.by (fun _ k => XS.iconst X13.here hx rfl (hb hby at_125) k) ?_
    show Goes p.tables e below (T13.setTop (mkF m 126 #[.val (.int ps), .val (.int pe), .val (.int pd), .val (.int ps2), .val (.int pe2), .val (.long pp), .second, .val (.int x1), .val (.int x2), .val (.int v3), .val (.int v5), .val (.int v7), .val (.int x9), .val (.ref b10), .val (.ref b12), .val .null, .unset, .unset] [(.int (2 : Int32)), (.int x9)])) _
    refine Goes.by (fun _ k => XS.icmpYes X13.here hx rfl (pc0 := 126) (pc' := 151) rfl (hb hby at_126) rfl (flt (by rw [hc14]; decide : ¬ (x9 < (2 : Int32)))).2.1 (by decide) (by decide) k) ?_
    show Goes p.tables e below (T13.setTop (mkF m 151 #[.val (.int ps), .val (.int pe), .val (.int pd), .val (.int ps2), .val (.int pe2), .val (.long pp), .second, .val (.int x1), .val (.int x2), .val (.int v3), .val (.int v5), .val (.int v7), .val (.int x9), .val (.ref b10), .val (.ref b12), .val .null, .unset, .unset] [])) _
    refine Goes.by (fun _ k => XS.iconst X13.here hx rfl (hb hby at_151) k) ?_
    show Goes p.tables e below (T13.setTop (mkF m 152 #[.val (.int ps), .val (.int pe), .val (.int pd), .val (.int ps2), .val (.int pe2), .val (.long pp), .second, .val (.int x1), .val (.int x2), .val (.int v3), .val (.int v5), .val (.int v7), .val (.int x9), .val (.ref b10), .val (.ref b12), .val .null, .unset, .unset] [(.int (0 : Int32))])) _
    refine Goes.by (fun _ k => XS.istore X13.here hx rfl (hb hby at_152) rfl (l' := #[.val (.int ps), .val (.int pe), .val (.int pd), .val (.int ps2), .val (.int pe2), .val (.long pp), .second, .val (.int x1), .val (.int x2), .val (.int v3), .val (.int v5), .val (.int v7), .val (.int x9), .val (.ref b10), .val (.ref b12), .val .null, .val (.int (0 : Int32)), .unset]) rfl k) ?_
    show Goes p.tables e below (T13.setTop (mkF m 154 #[.val (.int ps), .val (.int pe), .val (.int pd), .val (.int ps2), .val (.int pe2), .val (.long pp), .second, .val (.int x1), .val (.int x2), .val (.int v3), .val (.int v5), .val (.int v7), .val (.int x9), .val (.ref b10), .val (.ref b12), .val .null, .val (.int (0 : Int32)), .unset] [])) _
    refine Goes.by (fun _ k => XS.aload X13.here hx rfl (hb hby at_154) rfl rfl k) ?_
    show Goes p.tables e below (T13.setTop (mkF m 156 #[.val (.int ps), .val (.int pe), .val (.int pd), .val (.int ps2), .val (.int pe2), .val (.long pp), .second, .val (.int x1), .val (.int x2), .val (.int v3), .val (.int v5), .val (.int v7), .val (.int x9), .val (.ref b10), .val (.ref b12), .val .null, .val (.int (0 : Int32)), .unset] [(.ref b10)])) _
    refine Goes.by (fun _ k => XS.aload X13.here hx rfl (hb hby at_156) rfl rfl k) ?_
    show Goes p.tables e below (T13.setTop (mkF m 158 #[.val (.int ps), .val (.int pe), .val (.int pd), .val (.int ps2), .val (.int pe2), .val (.long pp), .second, .val (.int x1), .val (.int x2), .val (.int v3), .val (.int v5), .val (.int v7), .val (.int x9), .val (.ref b10), .val (.ref b12), .val .null, .val (.int (0 : Int32)), .unset] [.null, (.ref b10)])) _
    obtain ⟨cq15, kq15, q15a, q15b, q15c⟩ := isOf hZ rfl E_b10
    obtain ⟨_, _, ⟨T15, L15, k15, n15⟩, -, X15, ⟨Lc15, hQ15, l15, y15, z15⟩, st15⟩ := X13.virtualBack hx (y := (⟨"com/example/treewrite/treewrite/document/Identifier", "equals", "(Ljava/lang/Object;)Z"⟩ : MethodName)) (z := (⟨"com/example/treewrite/treewrite/document/Identifier", "equals", "(Ljava/lang/Object;)Z"⟩ : MethodName)) hown (mvT hZ (hw _ (List.mem_of_getElem? (i := 20) rfl))) (mvT hZ (hw _ (List.mem_of_getElem? (i := 21) rfl))) (notFace_of_selects (args := #[]) (mvT hZ (hw _ (List.mem_of_getElem? (i := 23) rfl)))) (mvT hZ (hw _ (List.mem_of_getElem? (i := 23) rfl))) (mvT hZ (hw _ (List.mem_of_getElem? (i := 22) rfl))) (by decide) (backOf (W := 0) (rm4n l Z a0 hw [] b10 T13.heap n0 Zs13) hZ (hw _ (List.mem_of_getElem? (i := 24) rfl)) (hw _ (List.mem_of_getElem? (i := 2) rfl)) (by decide) (by decide)) q15a q15c (g := (mkF m 158 #[.val (.int ps), .val (.int pe), .val (.int pd), .val (.int ps2), .val (.int pe2), .val (.long pp), .second, .val (.int x1), .val (.int x2), .val (.int v3), .val (.int v5), .val (.int v7), .val (.int x9), .val (.ref b10), .val (.ref b12), .val .null, .val (.int (0 : Int32)), .unset] [.null, (.ref b10)])) rfl (by rw [hml]; rfl) (Steps.refl _) (argsL := [.null]) (rest := []) (lenOf pd_3 rfl) rfl (by show 2 * 0 + _ ≤ _; exact Nat.le_of_eq rfl) (hb hby at_158) (fun _ _ => ⟨rfl, rfl, (by decide : 2 + 0 ≤ _), (by decide : 6 + 0 ≤ _)⟩)
    dsimp only [Pt.U, Pt.locs, Pt.cells, Pt.slots] at X15 l15 y15 z15 st15 hQ15
    subst l15 y15 z15
    obtain ⟨rfl, N15q, e15⟩ := hQ15
    have N15 := Fr.app N13 N15q
    refine Goes.via st15 ?_
    show Goes p.tables e below (T15.setTop (mkF m 161 #[.val (.int ps), .val (.int pe), .val (.int pd), .val (.int ps2), .val (.int pe2), .val (.long pp), .second, .val (.int x1), .val (.int x2), .val (.int v3), .val (.int v5), .val (.int v7), .val (.int x9), .val (.ref b10), .val (.ref b12), .val .null, .val (.int (0 : Int32)), .unset] [(.int (0 : Int32))])) _
    refine Goes.by (fun _ k => XS.istore X15.here hx rfl (hb hby at_161) rfl (l' := #[.val (.int ps), .val (.int pe), .val (.int pd), .val (.int ps2), .val (.int pe2), .val (.long pp), .second, .val (.int x1), .val (.int x2), .val (.int v3), .val (.int v5), .val (.int v7), .val (.int x9), .val (.ref b10), .val (.ref b12), .val .null, .val (.int (0 : Int32)), .val (.int (0 : Int32))]) rfl k) ?_
    show Goes p.tables e below (T15.setTop (mkF m 163 #[.val (.int ps), .val (.int pe), .val (.int pd), .val (.int ps2), .val (.int pe2), .val (.long pp), .second, .val (.int x1), .val (.int x2), .val (.int v3), .val (.int v5), .val (.int v7), .val (.int x9), .val (.ref b10), .val (.ref b12), .val .null, .val (.int (0 : Int32)), .val (.int (0 : Int32))] [])) _
    refine Goes.by (fun _ k => XS.iload X15.here hx rfl (hb hby at_163) rfl k) ?_
    show Goes p.tables e below (T15.setTop (mkF m 165 #[.val (.int ps), .val (.int pe), .val (.int pd), .val (.int ps2), .val (.int pe2), .val (.long pp), .second, .val (.int x1), .val (.int x2), .val (.int v3), .val (.int v5), .val (.int v7), .val (.int x9), .val (.ref b10), .val (.ref b12), .val .null, .val (.int (0 : Int32)), .val (.int (0 : Int32))] [(.int (0 : Int32))])) _
    refine Goes.by (fun _ k => XS.iload X15.here hx rfl (hb hby at_165) rfl k) ?_
    show Goes p.tables e below (T15.setTop (mkF m 167 #[.val (.int ps), .val (.int pe), .val (.int pd), .val (.int ps2), .val (.int pe2), .val (.long pp), .second, .val (.int x1), .val (.int x2), .val (.int v3), .val (.int v5), .val (.int v7), .val (.int x9), .val (.ref b10), .val (.ref b12), .val .null, .val (.int (0 : Int32)), .val (.int (0 : Int32))] [(.int (0 : Int32)), (.int (0 : Int32))])) _
    refine Goes.by (fun _ k => XS.icmpYes X15.here hx rfl (pc0 := 167) (pc' := 172) rfl (hb hby at_167) rfl (teq (by decide : (0 : Int32) = (0 : Int32))).1 (by decide) (by decide) k) ?_
    show Goes p.tables e below (T15.setTop (mkF m 172 #[.val (.int ps), .val (.int pe), .val (.int pd), .val (.int ps2), .val (.int pe2), .val (.long pp), .second, .val (.int x1), .val (.int x2), .val (.int v3), .val (.int v5), .val (.int v7), .val (.int x9), .val (.ref b10), .val (.ref b12), .val .null, .val (.int (0 : Int32)), .val (.int (0 : Int32))] [])) _
    refine Goes.by (fun _ k => XS.iload X15.here hx rfl (hb hby at_172) rfl k) ?_
    show Goes p.tables e below (T15.setTop (mkF m 174 #[.val (.int ps), .val (.int pe), .val (.int pd), .val (.int ps2), .val (.int pe2), .val (.long pp), .second, .val (.int x1), .val (.int x2), .val (.int v3), .val (.int v5), .val (.int v7), .val (.int x9), .val (.ref b10), .val (.ref b12), .val .null, .val (.int (0 : Int32)), .val (.int (0 : Int32))] [(.int x9)])) _
    refine Goes.by (fun _ k => XS.iconst X15.here hx rfl (hb hby at_174) k) ?_
    show Goes p.tables e below (T15.setTop (mkF m 175 #[.val (.int ps), .val (.int pe), .val (.int pd), .val (.int ps2), .val (.int pe2), .val (.long pp), .second, .val (.int x1), .val (.int x2), .val (.int v3), .val (.int v5), .val (.int v7), .val (.int x9), .val (.ref b10), .val (.ref b12), .val .null, .val (.int (0 : Int32)), .val (.int (0 : Int32))] [(.int (2 : Int32)), (.int x9)])) _
    refine Goes.by (fun _ k => XS.icmpYes X15.here hx rfl (pc0 := 175) (pc' := 192) rfl (hb hby at_175) rfl (flt (by rw [hc14]; decide : ¬ (x9 < (2 : Int32)))).2.1 (by decide) (by decide) k) ?_
    show Goes p.tables e below (T15.setTop (mkF m 192 #[.val (.int ps), .val (.int pe), .val (.int pd), .val (.int ps2), .val (.int pe2), .val (.long pp), .second, .val (.int x1), .val (.int x2), .val (.int v3), .val (.int v5), .val (.int v7), .val (.int x9), .val (.ref b10), .val (.ref b12), .val .null, .val (.int (0 : Int32)), .val (.int (0 : Int32))] [])) _
    refine Goes.by (fun _ k => XS.aload X15.here hx rfl (hb hby at_192) rfl rfl k) ?_
    show Goes p.tables e below (T15.setTop (mkF m 194 #[.val (.int ps), .val (.int pe), .val (.int pd), .val (.int ps2), .val (.int pe2), .val (.long pp), .second, .val (.int x1), .val (.int x2), .val (.int v3), .val (.int v5), .val (.int v7), .val (.int x9), .val (.ref b10), .val (.ref b12), .val .null, .val (.int (0 : Int32)), .val (.int (0 : Int32))] [(.ref b10)])) _
    refine Goes.by (fun _ k => XS.aload X15.here hx rfl (hb hby at_194) rfl rfl k) ?_
    show Goes p.tables e below (T15.setTop (mkF m 196 #[.val (.int ps), .val (.int pe), .val (.int pd), .val (.int ps2), .val (.int pe2), .val (.long pp), .second, .val (.int x1), .val (.int x2), .val (.int v3), .val (.int v5), .val (.int v7), .val (.int x9), .val (.ref b10), .val (.ref b12), .val .null, .val (.int (0 : Int32)), .val (.int (0 : Int32))] [(.ref b10), (.ref b10)])) _
    obtain ⟨cq16, kq16, q16a, q16b, q16c⟩ := isOf hZ e15 E_b10
    obtain ⟨_, _, ⟨T16, L16, k16, n16⟩, -, X16, ⟨Lc16, hQ16, l16, y16, z16⟩, st16⟩ := X15.virtualBack hx (y := (⟨"com/example/treewrite/treewrite/document/Identifier", "equals", "(Ljava/lang/Object;)Z"⟩ : MethodName)) (z := (⟨"com/example/treewrite/treewrite/document/Identifier", "equals", "(Ljava/lang/Object;)Z"⟩ : MethodName)) hown (mvT hZ (hw _ (List.mem_of_getElem? (i := 20) rfl))) (mvT hZ (hw _ (List.mem_of_getElem? (i := 21) rfl))) (notFace_of_selects (args := #[]) (mvT hZ (hw _ (List.mem_of_getElem? (i := 23) rfl)))) (mvT hZ (hw _ (List.mem_of_getElem? (i := 23) rfl))) (mvT hZ (hw _ (List.mem_of_getElem? (i := 22) rfl))) (by decide) (backOf (W := 0) (rm4 l Z a0 hw [] b10 b10 ps pe pd ps pe pd T13.heap n0 Zs13 F_b10_start F_b10_end F_b10_depth F_b10_start F_b10_end F_b10_depth E_b10) hZ (hw _ (List.mem_of_getElem? (i := 24) rfl)) (hw _ (List.mem_of_getElem? (i := 2) rfl)) (by decide) (by decide)) q16a q16c (g := (mkF m 196 #[.val (.int ps), .val (.int pe), .val (.int pd), .val (.int ps2), .val (.int pe2), .val (.long pp), .second, .val (.int x1), .val (.int x2), .val (.int v3), .val (.int v5), .val (.int v7), .val (.int x9), .val (.ref b10), .val (.ref b12), .val .null, .val (.int (0 : Int32)), .val (.int (0 : Int32))] [(.ref b10), (.ref b10)])) rfl (by rw [hml]; rfl) (Steps.refl _) (argsL := [(.ref b10)]) (rest := []) (lenOf pd_3 rfl) rfl (by show 2 * 0 + _ ≤ _; exact Nat.le_of_eq rfl) (hb hby at_196) (fun _ _ => ⟨rfl, e15, (by decide : 2 + 0 ≤ _), (by decide : 6 + 0 ≤ _)⟩)
    dsimp only [Pt.U, Pt.locs, Pt.cells, Pt.slots] at X16 l16 y16 z16 st16 hQ16
    subst l16 y16 z16
    obtain ⟨rfl, N16q, e16⟩ := hQ16
    have N16 := Fr.app N15 N16q
    refine Goes.via st16 ?_
    show Goes p.tables e below (T16.setTop (mkF m 199 #[.val (.int ps), .val (.int pe), .val (.int pd), .val (.int ps2), .val (.int pe2), .val (.long pp), .second, .val (.int x1), .val (.int x2), .val (.int v3), .val (.int v5), .val (.int v7), .val (.int x9), .val (.ref b10), .val (.ref b12), .val .null, .val (.int (0 : Int32)), .val (.int (0 : Int32))] [(.int (fn4 ps pe pd ps pe pd))])) _
    obtain ⟨fs, hr, hrun, hended, hW, hsame⟩ := X16.leave (v := some (.int (nar .boolean (fn4 ps pe pd ps pe pd)))) (fun h => by rw [Bd.returns] at h; cases h)
    refine ⟨_, _, retN X16 hx (t := .boolean) Bd.returns (by simp) (hb hby at_199) hr, hrun, hended, _, _, rfl, ?_, ⟨_, rfl⟩, hW, hsame.mono (by decide) (by decide)⟩
    show Q0 Z ps pe pd ps2 pe2 pp acac h0 n0 _ T16.heap _
    rw [e16]
    exact ⟨(by rw [own_self]; rfl), N16⟩
  · refine Goes.by (fun _ k => XS.icmpYes X13.here hx rfl (pc0 := 95) (pc' := 104) rfl (hb hby at_95) rfl (feq hc14).2 (by decide) (by decide) k) ?_
    show Goes p.tables e below (T13.setTop (mkF m 104 #[.val (.int ps), .val (.int pe), .val (.int pd), .val (.int ps2), .val (.int pe2), .val (.long pp), .second, .val (.int x1), .val (.int x2), .val (.int v3), .val (.int v5), .val (.int v7), .val (.int x9), .val (.ref b10), .val (.ref b12), .unset, .unset, .unset] [])) _
    refine Goes.by (fun _ k => XS.iload X13.here hx rfl (hb hby at_104) rfl k) ?_
    show Goes p.tables e below (T13.setTop (mkF m 106 #[.val (.int ps), .val (.int pe), .val (.int pd), .val (.int ps2), .val (.int pe2), .val (.long pp), .second, .val (.int x1), .val (.int x2), .val (.int v3), .val (.int v5), .val (.int v7), .val (.int x9), .val (.ref b10), .val (.ref b12), .unset, .unset, .unset] [(.int x9)])) _
    refine Goes.by (fun _ k => XS.iconst X13.here hx rfl (hb hby at_106) k) ?_
    show Goes p.tables e below (T13.setTop (mkF m 107 #[.val (.int ps), .val (.int pe), .val (.int pd), .val (.int ps2), .val (.int pe2), .val (.long pp), .second, .val (.int x1), .val (.int x2), .val (.int v3), .val (.int v5), .val (.int v7), .val (.int x9), .val (.ref b10), .val (.ref b12), .unset, .unset, .unset] [(.int (3 : Int32)), (.int x9)])) _
    by_cases hc17 : x9 = (3 : Int32)
    · refine Goes.by (fun _ k => XS.icmpNo X13.here hx rfl (hb hby at_107) rfl (teq hc17).2 k) ?_
      show Goes p.tables e below (T13.setTop (mkF m 110 #[.val (.int ps), .val (.int pe), .val (.int pd), .val (.int ps2), .val (.int pe2), .val (.long pp), .second, .val (.int x1), .val (.int x2), .val (.int v3), .val (.int v5), .val (.int v7), .val (.int x9), .val (.ref b10), .val (.ref b12), .unset, .unset, .unset] [])) _
      refine Goes.by (fun _ k => XS.iloadN X13.here hx rfl (hb hby at_110) rfl k) ?_
      show Goes p.tables e below (T13.setTop (mkF m 111 #[.val (.int ps), .val (.int pe), .val (.int pd), .val (.int ps2), .val (.int pe2), .val (.long pp), .second, .val (.int x1), .val (.int x2), .val (.int v3), .val (.int v5), .val (.int v7), .val (.int x9), .val (.ref b10), .val (.ref b12), .unset, .unset, .unset] [(.int ps)])) _
      obtain ⟨_, _, ⟨T18, L18, k18, n18⟩, -, X18, ⟨Lc18, hQ18, l18, y18, z18⟩, st18⟩ := Jvm.LawKit.callS X13 hx (y := (⟨"java/lang/Integer", "valueOf", "(I)Ljava/lang/Integer;"⟩ : MethodName)) hown (mvT hZ (hw _ (List.mem_of_getElem? (i := 27) rfl))) (mvT hZ (hw _ (List.mem_of_getElem? (i := 28) rfl))) (mvT hZ (hw _ (List.mem_of_getElem? (i := 29) rfl))) (mvT hZ (hw _ (List.mem_of_getElem? (i := 30) rfl))) (by decide) (backOf (W := 0) (rm5 l Z a0 hw [] ps acac T13.heap n0 Zs13 O S_high S_cache hcac) hZ (hw _ (List.mem_of_getElem? (i := 30) rfl)) (hw _ (List.mem_of_getElem? (i := 29) rfl)) (by decide) (by decide)) (g := (mkF m 111 #[.val (.int ps), .val (.int pe), .val (.int pd), .val (.int ps2), .val (.int pe2), .val (.long pp), .second, .val (.int x1), .val (.int x2), .val (.int v3), .val (.int v5), .val (.int v7), .val (.int x9), .val (.ref b10), .val (.ref b12), .unset, .unset, .unset] [(.int ps)])) rfl (by rw [hml]; rfl) (argsL := [(.int ps)]) (rest := []) (lenOf pd_4 rfl) rfl (by show 2 * 0 + _ ≤ _; exact Nat.le_of_eq rfl) (hb hby at_111) (fun _ _ => ⟨rfl, rfl, (by decide : 2 + 1 ≤ _), (by decide : 6 + 1 ≤ _)⟩)
      dsimp only [Pt.U, Pt.locs, Pt.cells, Pt.slots] at X18 l18 y18 z18 st18 hQ18
      subst l18 y18 z18
      obtain ⟨ob_18, rfl, N18q, Kq18, po18_0⟩ := hQ18
      have N18 := Fr.app N13 N18q
      refine Goes.by st18 ?_
      have Zs18 : n0 ≤ T18.heap.size := Nat.le_trans Zs13 Kq18.1
      have K18 : Keep h0 T18.heap [] := K13.trans Kq18 all0
      have O : Old Z n0 T18.heap := O.keep Kq18 all0
      have E_b10 : Exa Z T18.heap b10 "com/example/treewrite/treewrite/document/Identifier" := E_b10.keep Kq18
      have F_b10_start : Fld Z T18.heap b10 "com/example/treewrite/treewrite/document/Identifier" "start" "I" (.int ps) := F_b10_start.keep Kq18 nin0
      have F_b10_end : Fld Z T18.heap b10 "com/example/treewrite/treewrite/document/Identifier" "end" "I" (.int pe) := F_b10_end.keep Kq18 nin0
      have F_b10_depth : Fld Z T18.heap b10 "com/example/treewrite/treewrite/document/Identifier" "depth" "I" (.int pd) := F_b10_depth.keep Kq18 nin0
      have E_b12 : Exa Z T18.heap b12 "com/example/treewrite/treewrite/document/Identifier" := E_b12.keep Kq18
      have F_b12_start : Fld Z T18.heap b12 "com/example/treewrite/treewrite/document/Identifier" "start" "I" (.int v3) := F_b12_start.keep Kq18 nin0
      have F_b12_end : Fld Z T18.heap b12 "com/example/treewrite/treewrite/document/Identifier" "end" "I" (.int v5) := F_b12_end.keep Kq18 nin0
      have F_b12_depth : Fld Z T18.heap b12 "com/example/treewrite/treewrite/document/Identifier" "depth" "I" (.int v7) := F_b12_depth.keep Kq18 nin0
      have E_ob_18 : Exa Z T18.heap ob_18 "java/lang/Integer" := po18_0
      show Goes p.tables e below (T18.setTop (mkF m 114 #[.val (.int ps), .val (.int pe), .val (.int pd), .val (.int ps2), .val (.int pe2), .val (.long pp), .second, .val (.int x1), .val (.int x2), .val (.int v3), .val (.int v5), .val (.int v7), .val (.int x9), .val (.ref b10), .val (.ref b12), .unset, .unset, .unset] [(.ref ob_18)])) _
      refine Goes.by (fun _ k => XS.astore X18.here hx rfl (hb hby at_114) rfl rfl (l' := #[.val (.int ps), .val (.int pe), .val (.int pd), .val (.int ps2), .val (.int pe2), .val (.long pp), .second, .val (.int x1), .val (.int x2), .val (.int v3), .val (.int v5), .val (.int v7), .val (.int x9), .val (.ref b10), .val (.ref b12), .val (.ref ob_18), .unset, .unset]) rfl k) ?_
      show Goes p.tables e below (T18.setTop (mkF m 116 #[.val (.int ps), .val (.int pe), .val (.int pd), .val (.int ps2), .val (.int pe2), .val (.long pp), .second, .val (.int x1), .val (.int x2), .val (.int v3), .val (.int v5), .val (.int v7), .val (.int x9), .val (.ref b10), .val (.ref b12), .val (.ref ob_18), .unset, .unset] [])) _
      refine Goes.by (fun _ k => XS.goto X18.here hx rfl (pc0 := 116) (pc' := 123) rfl (hb hby at_116) (by decide) (by decide) k) ?_
      show Goes p.tables e below (T18.setTop (mkF m 123 #[.val (.int ps), .val (.int pe), .val (.int pd), .val (.int ps2), .val (.int pe2), .val (.long pp), .second, .val (.int x1), .val (.int x2), .val (.int v3), .val (.int v5), .val (.int v7), .val (.int x9), .val (.ref b10), .val (.ref b12), .val (.ref ob_18), .unset, .unset] [])) _
      refine Goes.by (fun _ k => XS.iload X18.here hx rfl (hb hby at_123) rfl k) ?_
      show Goes p.tables e below (T18.setTop (mkF m 125 #[.val (.int ps), .val (.int pe), .val (.int pd), .val (.int ps2), .val (.int pe2), .val (.long pp), .second, .val (.int x1), .val (.int x2), .val (.int v3), .val (.int v5), .val (.int v7), .val (.int x9), .val (.ref b10), .val (.ref b12), .val (.ref ob_18), .unset, .unset] [(.int x9)])) _
      refine Goes.by (fun _ k => XS.iconst X18.here hx rfl (hb hby at_125) k) ?_
      show Goes p.tables e below (T18.setTop (mkF m 126 #[.val (.int ps), .val (.int pe), .val (.int pd), .val (.int ps2), .val (.int pe2), .val (.long pp), .second, .val (.int x1), .val (.int x2), .val (.int v3), .val (.int v5), .val (.int v7), .val (.int x9), .val (.ref b10), .val (.ref b12), .val (.ref ob_18), .unset, .unset] [(.int (2 : Int32)), (.int x9)])) _
      refine Goes.by (fun _ k => XS.icmpYes X18.here hx rfl (pc0 := 126) (pc' := 151) rfl (hb hby at_126) rfl (flt (by rw [hc17]; decide : ¬ (x9 < (2 : Int32)))).2.1 (by decide) (by decide) k) ?_
      show Goes p.tables e below (T18.setTop (mkF m 151 #[.val (.int ps), .val (.int pe), .val (.int pd), .val (.int ps2), .val (.int pe2), .val (.long pp), .second, .val (.int x1), .val (.int x2), .val (.int v3), .val (.int v5), .val (.int v7), .val (.int x9), .val (.ref b10), .val (.ref b12), .val (.ref ob_18), .unset, .unset] [])) _
      refine Goes.by (fun _ k => XS.iconst X18.here hx rfl (hb hby at_151) k) ?_
      show Goes p.tables e below (T18.setTop (mkF m 152 #[.val (.int ps), .val (.int pe), .val (.int pd), .val (.int ps2), .val (.int pe2), .val (.long pp), .second, .val (.int x1), .val (.int x2), .val (.int v3), .val (.int v5), .val (.int v7), .val (.int x9), .val (.ref b10), .val (.ref b12), .val (.ref ob_18), .unset, .unset] [(.int (0 : Int32))])) _
      refine Goes.by (fun _ k => XS.istore X18.here hx rfl (hb hby at_152) rfl (l' := #[.val (.int ps), .val (.int pe), .val (.int pd), .val (.int ps2), .val (.int pe2), .val (.long pp), .second, .val (.int x1), .val (.int x2), .val (.int v3), .val (.int v5), .val (.int v7), .val (.int x9), .val (.ref b10), .val (.ref b12), .val (.ref ob_18), .val (.int (0 : Int32)), .unset]) rfl k) ?_
      show Goes p.tables e below (T18.setTop (mkF m 154 #[.val (.int ps), .val (.int pe), .val (.int pd), .val (.int ps2), .val (.int pe2), .val (.long pp), .second, .val (.int x1), .val (.int x2), .val (.int v3), .val (.int v5), .val (.int v7), .val (.int x9), .val (.ref b10), .val (.ref b12), .val (.ref ob_18), .val (.int (0 : Int32)), .unset] [])) _
      refine Goes.by (fun _ k => XS.aload X18.here hx rfl (hb hby at_154) rfl rfl k) ?_
      show Goes p.tables e below (T18.setTop (mkF m 156 #[.val (.int ps), .val (.int pe), .val (.int pd), .val (.int ps2), .val (.int pe2), .val (.long pp), .second, .val (.int x1), .val (.int x2), .val (.int v3), .val (.int v5), .val (.int v7), .val (.int x9), .val (.ref b10), .val (.ref b12), .val (.ref ob_18), .val (.int (0 : Int32)), .unset] [(.ref b10)])) _
      refine Goes.by (fun _ k => XS.aload X18.here hx rfl (hb hby at_156) rfl rfl k) ?_
      show Goes p.tables e below (T18.setTop (mkF m 158 #[.val (.int ps), .val (.int pe), .val (.int pd), .val (.int ps2), .val (.int pe2), .val (.long pp), .second, .val (.int x1), .val (.int x2), .val (.int v3), .val (.int v5), .val (.int v7), .val (.int x9), .val (.ref b10), .val (.ref b12), .val (.ref ob_18), .val (.int (0 : Int32)), .unset] [(.ref ob_18), (.ref b10)])) _
      obtain ⟨cq19, kq19, q19a, q19b, q19c⟩ := isOf hZ rfl E_b10
      obtain ⟨_, _, ⟨T19, L19, k19, n19⟩, -, X19, ⟨Lc19, hQ19, l19, y19, z19⟩, st19⟩ := X18.virtualBack hx (y := (⟨"com/example/treewrite/treewrite/document/Identifier", "equals", "(Ljava/lang/Object;)Z"⟩ : MethodName)) (z := (⟨"com/example/treewrite/treewrite/document/Identifier", "equals", "(Ljava/lang/Object;)Z"⟩ : MethodName)) hown (mvT hZ (hw _ (List.mem_of_getElem? (i := 20) rfl))) (mvT hZ (hw _ (List.mem_of_getElem? (i := 21) rfl))) (notFace_of_selects (args := #[]) (mvT hZ (hw _ (List.mem_of_getElem? (i := 23) rfl)))) (mvT hZ (hw _ (List.mem_of_getElem? (i := 23) rfl))) (mvT hZ (hw _ (List.mem_of_getElem? (i := 22) rfl))) (by decide) (backOf (W := 0) (rm4i l Z a0 hw [] b10 ob_18 T18.heap n0 Zs18 E_ob_18) hZ (hw _ (List.mem_of_getElem? (i := 24) rfl)) (hw _ (List.mem_of_getElem? (i := 2) rfl)) (by decide) (by decide)) q19a q19c (g := (mkF m 158 #[.val (.int ps), .val (.int pe), .val (.int pd), .val (.int ps2), .val (.int pe2), .val (.long pp), .second, .val (.int x1), .val (.int x2), .val (.int v3), .val (.int v5), .val (.int v7), .val (.int x9), .val (.ref b10), .val (.ref b12), .val (.ref ob_18), .val (.int (0 : Int32)), .unset] [(.ref ob_18), (.ref b10)])) rfl (by rw [hml]; rfl) (Steps.refl _) (argsL := [(.ref ob_18)]) (rest := []) (lenOf pd_3 rfl) rfl (by show 2 * 0 + _ ≤ _; exact Nat.le_of_eq rfl) (hb hby at_158) (fun _ _ => ⟨rfl, rfl, (by decide : 3 + 0 ≤ _), (by decide : 7 + 0 ≤ _)⟩)
      dsimp only [Pt.U, Pt.locs, Pt.cells, Pt.slots] at X19 l19 y19 z19 st19 hQ19
      subst l19 y19 z19
      obtain ⟨rfl, N19q, e19⟩ := hQ19
      have N19 := Fr.app N18 N19q
      refine Goes.via st19 ?_
      show Goes p.tables e below (T19.setTop (mkF m 161 #[.val (.int ps), .val (.int pe), .val (.int pd), .val (.int ps2), .val (.int pe2), .val (.long pp), .second, .val (.int x1), .val (.int x2), .val (.int v3), .val (.int v5), .val (.int v7), .val (.int x9), .val (.ref b10), .val (.ref b12), .val (.ref ob_18), .val (.int (0 : Int32)), .unset] [(.int (0 : Int32))])) _
      refine Goes.by (fun _ k => XS.istore X19.here hx rfl (hb hby at_161) rfl (l' := #[.val (.int ps), .val (.int pe), .val (.int pd), .val (.int ps2), .val (.int pe2), .val (.long pp), .second, .val (.int x1), .val (.int x2), .val (.int v3), .val (.int v5), .val (.int v7), .val (.int x9), .val (.ref b10), .val (.ref b12), .val (.ref ob_18), .val (.int (0 : Int32)), .val (.int (0 : Int32))]) rfl k) ?_
      show Goes p.tables e below (T19.setTop (mkF m 163 #[.val (.int ps), .val (.int pe), .val (.int pd), .val (.int ps2), .val (.int pe2), .val (.long pp), .second, .val (.int x1), .val (.int x2), .val (.int v3), .val (.int v5), .val (.int v7), .val (.int x9), .val (.ref b10), .val (.ref b12), .val (.ref ob_18), .val (.int (0 : Int32)), .val (.int (0 : Int32))] [])) _
      refine Goes.by (fun _ k => XS.iload X19.here hx rfl (hb hby at_163) rfl k) ?_
      show Goes p.tables e below (T19.setTop (mkF m 165 #[.val (.int ps), .val (.int pe), .val (.int pd), .val (.int ps2), .val (.int pe2), .val (.long pp), .second, .val (.int x1), .val (.int x2), .val (.int v3), .val (.int v5), .val (.int v7), .val (.int x9), .val (.ref b10), .val (.ref b12), .val (.ref ob_18), .val (.int (0 : Int32)), .val (.int (0 : Int32))] [(.int (0 : Int32))])) _
      refine Goes.by (fun _ k => XS.iload X19.here hx rfl (hb hby at_165) rfl k) ?_
      show Goes p.tables e below (T19.setTop (mkF m 167 #[.val (.int ps), .val (.int pe), .val (.int pd), .val (.int ps2), .val (.int pe2), .val (.long pp), .second, .val (.int x1), .val (.int x2), .val (.int v3), .val (.int v5), .val (.int v7), .val (.int x9), .val (.ref b10), .val (.ref b12), .val (.ref ob_18), .val (.int (0 : Int32)), .val (.int (0 : Int32))] [(.int (0 : Int32)), (.int (0 : Int32))])) _
      refine Goes.by (fun _ k => XS.icmpYes X19.here hx rfl (pc0 := 167) (pc' := 172) rfl (hb hby at_167) rfl (teq (by decide : (0 : Int32) = (0 : Int32))).1 (by decide) (by decide) k) ?_
      show Goes p.tables e below (T19.setTop (mkF m 172 #[.val (.int ps), .val (.int pe), .val (.int pd), .val (.int ps2), .val (.int pe2), .val (.long pp), .second, .val (.int x1), .val (.int x2), .val (.int v3), .val (.int v5), .val (.int v7), .val (.int x9), .val (.ref b10), .val (.ref b12), .val (.ref ob_18), .val (.int (0 : Int32)), .val (.int (0 : Int32))] [])) _
      refine Goes.by (fun _ k => XS.iload X19.here hx rfl (hb hby at_172) rfl k) ?_
      show Goes p.tables e below (T19.setTop (mkF m 174 #[.val (.int ps), .val (.int pe), .val (.int pd), .val (.int ps2), .val (.int pe2), .val (.long pp), .second, .val (.int x1), .val (.int x2), .val (.int v3), .val (.int v5), .val (.int v7), .val (.int x9), .val (.ref b10), .val (.ref b12), .val (.ref ob_18), .val (.int (0 : Int32)), .val (.int (0 : Int32))] [(.int x9)])) _
      refine Goes.by (fun _ k => XS.iconst X19.here hx rfl (hb hby at_174) k) ?_
      show Goes p.tables e below (T19.setTop (mkF m 175 #[.val (.int ps), .val (.int pe), .val (.int pd), .val (.int ps2), .val (.int pe2), .val (.long pp), .second, .val (.int x1), .val (.int x2), .val (.int v3), .val (.int v5), .val (.int v7), .val (.int x9), .val (.ref b10), .val (.ref b12), .val (.ref ob_18), .val (.int (0 : Int32)), .val (.int (0 : Int32))] [(.int (2 : Int32)), (.int x9)])) _
      refine Goes.by (fun _ k => XS.icmpYes X19.here hx rfl (pc0 := 175) (pc' := 192) rfl (hb hby at_175) rfl (flt (by rw [hc17]; decide : ¬ (x9 < (2 : Int32)))).2.1 (by decide) (by decide) k) ?_
      show Goes p.tables e below (T19.setTop (mkF m 192 #[.val (.int ps), .val (.int pe), .val (.int pd), .val (.int ps2), .val (.int pe2), .val (.long pp), .second, .val (.int x1), .val (.int x2), .val (.int v3), .val (.int v5), .val (.int v7), .val (.int x9), .val (.ref b10), .val (.ref b12), .val (.ref ob_18), .val (.int (0 : Int32)), .val (.int (0 : Int32))] [])) _
      refine Goes.by (fun _ k => XS.aload X19.here hx rfl (hb hby at_192) rfl rfl k) ?_
      show Goes p.tables e below (T19.setTop (mkF m 194 #[.val (.int ps), .val (.int pe), .val (.int pd), .val (.int ps2), .val (.int pe2), .val (.long pp), .second, .val (.int x1), .val (.int x2), .val (.int v3), .val (.int v5), .val (.int v7), .val (.int x9), .val (.ref b10), .val (.ref b12), .val (.ref ob_18), .val (.int (0 : Int32)), .val (.int (0 : Int32))] [(.ref b10)])) _
      refine Goes.by (fun _ k => XS.aload X19.here hx rfl (hb hby at_194) rfl rfl k) ?_
      show Goes p.tables e below (T19.setTop (mkF m 196 #[.val (.int ps), .val (.int pe), .val (.int pd), .val (.int ps2), .val (.int pe2), .val (.long pp), .second, .val (.int x1), .val (.int x2), .val (.int v3), .val (.int v5), .val (.int v7), .val (.int x9), .val (.ref b10), .val (.ref b12), .val (.ref ob_18), .val (.int (0 : Int32)), .val (.int (0 : Int32))] [(.ref b10), (.ref b10)])) _
      obtain ⟨cq20, kq20, q20a, q20b, q20c⟩ := isOf hZ e19 E_b10
      obtain ⟨_, _, ⟨T20, L20, k20, n20⟩, -, X20, ⟨Lc20, hQ20, l20, y20, z20⟩, st20⟩ := X19.virtualBack hx (y := (⟨"com/example/treewrite/treewrite/document/Identifier", "equals", "(Ljava/lang/Object;)Z"⟩ : MethodName)) (z := (⟨"com/example/treewrite/treewrite/document/Identifier", "equals", "(Ljava/lang/Object;)Z"⟩ : MethodName)) hown (mvT hZ (hw _ (List.mem_of_getElem? (i := 20) rfl))) (mvT hZ (hw _ (List.mem_of_getElem? (i := 21) rfl))) (notFace_of_selects (args := #[]) (mvT hZ (hw _ (List.mem_of_getElem? (i := 23) rfl)))) (mvT hZ (hw _ (List.mem_of_getElem? (i := 23) rfl))) (mvT hZ (hw _ (List.mem_of_getElem? (i := 22) rfl))) (by decide) (backOf (W := 0) (rm4 l Z a0 hw [] b10 b10 ps pe pd ps pe pd T18.heap n0 Zs18 F_b10_start F_b10_end F_b10_depth F_b10_start F_b10_end F_b10_depth E_b10) hZ (hw _ (List.mem_of_getElem? (i := 24) rfl)) (hw _ (List.mem_of_getElem? (i := 2) rfl)) (by decide) (by decide)) q20a q20c (g := (mkF m 196 #[.val (.int ps), .val (.int pe), .val (.int pd), .val (.int ps2), .val (.int pe2), .val (.long pp), .second, .val (.int x1), .val (.int x2), .val (.int v3), .val (.int v5), .val (.int v7), .val (.int x9), .val (.ref b10), .val (.ref b12), .val (.ref ob_18), .val (.int (0 : Int32)), .val (.int (0 : Int32))] [(.ref b10), (.ref b10)])) rfl (by rw [hml]; rfl) (Steps.refl _) (argsL := [(.ref b10)]) (rest := []) (lenOf pd_3 rfl) rfl (by show 2 * 0 + _ ≤ _; exact Nat.le_of_eq rfl) (hb hby at_196) (fun _ _ => ⟨rfl, e19, (by decide : 3 + 0 ≤ _), (by decide : 7 + 0 ≤ _)⟩)
      dsimp only [Pt.U, Pt.locs, Pt.cells, Pt.slots] at X20 l20 y20 z20 st20 hQ20
      subst l20 y20 z20
      obtain ⟨rfl, N20q, e20⟩ := hQ20
      have N20 := Fr.app N19 N20q
      refine Goes.via st20 ?_
      show Goes p.tables e below (T20.setTop (mkF m 199 #[.val (.int ps), .val (.int pe), .val (.int pd), .val (.int ps2), .val (.int pe2), .val (.long pp), .second, .val (.int x1), .val (.int x2), .val (.int v3), .val (.int v5), .val (.int v7), .val (.int x9), .val (.ref b10), .val (.ref b12), .val (.ref ob_18), .val (.int (0 : Int32)), .val (.int (0 : Int32))] [(.int (fn4 ps pe pd ps pe pd))])) _
      obtain ⟨fs, hr, hrun, hended, hW, hsame⟩ := X20.leave (v := some (.int (nar .boolean (fn4 ps pe pd ps pe pd)))) (fun h => by rw [Bd.returns] at h; cases h)
      refine ⟨_, _, retN X20 hx (t := .boolean) Bd.returns (by simp) (hb hby at_199) hr, hrun, hended, _, _, rfl, ?_, ⟨_, rfl⟩, hW, hsame.mono (by decide) (by decide)⟩
      show Q0 Z ps pe pd ps2 pe2 pp acac h0 n0 _ T20.heap _
      rw [e20]
      exact ⟨(by rw [own_self]; rfl), N20⟩
    · refine Goes.by (fun _ k => XS.icmpYes X13.here hx rfl (pc0 := 107) (pc' := 119) rfl (hb hby at_107) rfl (feq hc17).2 (by decide) (by decide) k) ?_
      show Goes p.tables e below (T13.setTop (mkF m 119 #[.val (.int ps), .val (.int pe), .val (.int pd), .val (.int ps2), .val (.int pe2), .val (.long pp), .second, .val (.int x1), .val (.int x2), .val (.int v3), .val (.int v5), .val (.int v7), .val (.int x9), .val (.ref b10), .val (.ref b12), .unset, .unset, .unset] [])) _
      refine Goes.by (fun _ k => XS.aload X13.here hx rfl (hb hby at_119) rfl rfl k) ?_
      show Goes p.tables e below (T13.setTop (mkF m 121 #[.val (.int ps), .val (.int pe), .val (.int pd), .val (.int ps2), .val (.int pe2), .val (.long pp), .second, .val (.int x1), .val (.int x2), .val (.int v3), .val (.int v5), .val (.int v7), .val (.int x9), .val (.ref b10), .val (.ref b12), .unset, .unset, .unset] [(.ref b12)])) _
      refine Goes.by (fun _ k => XS.astore X13.here hx rfl (hb hby at_121) rfl rfl (l' := #[.val (.int ps), .val (.int pe), .val (.int pd), .val (.int ps2), .val (.int pe2), .val (.long pp), .second, .val (.int x1), .val (.int x2), .val (.int v3), .val (.int v5), .val (.int v7), .val (.int x9), .val (.ref b10), .val (.ref b12), .val (.ref b12), .unset, .unset]) rfl k) ?_
      show Goes p.tables e below (T13.setTop (mkF m 123 #[.val (.int ps), .val (.int pe), .val (.int pd), .val (.int ps2), .val (.int pe2), .val (.long pp), .second, .val (.int x1), .val (.int x2), .val (.int v3), .val (.int v5), .val (.int v7), .val (.int x9), .val (.ref b10), .val (.ref b12), .val (.ref b12), .unset, .unset] [])) _
      refine Goes.by (fun _ k => XS.iload X13.here hx rfl (hb hby at_123) rfl k) ?_
      show Goes p.tables e below (T13.setTop (mkF m 125 #[.val (.int ps), .val (.int pe), .val (.int pd), .val (.int ps2), .val (.int pe2), .val (.long pp), .second, .val (.int x1), .val (.int x2), .val (.int v3), .val (.int v5), .val (.int v7), .val (.int x9), .val (.ref b10), .val (.ref b12), .val (.ref b12), .unset, .unset] [(.int x9)])) _
      refine Goes.by (fun _ k => XS.iconst X13.here hx rfl (hb hby at_125) k) ?_
      show Goes p.tables e below (T13.setTop (mkF m 126 #[.val (.int ps), .val (.int pe), .val (.int pd), .val (.int ps2), .val (.int pe2), .val (.long pp), .second, .val (.int x1), .val (.int x2), .val (.int v3), .val (.int v5), .val (.int v7), .val (.int x9), .val (.ref b10), .val (.ref b12), .val (.ref b12), .unset, .unset] [(.int (2 : Int32)), (.int x9)])) _
      refine Goes.by (fun _ k => XS.icmpNo X13.here hx rfl (hb hby at_126) rfl (tlt (own_k _ _ hx9 hc14 hc17 : x9 < (2 : Int32))).2.1 k) ?_
      show Goes p.tables e below (T13.setTop (mkF m 129 #[.val (.int ps), .val (.int pe), .val (.int pd), .val (.int ps2), .val (.int pe2), .val (.long pp), .second, .val (.int x1), .val (.int x2), .val (.int v3), .val (.int v5), .val (.int v7), .val (.int x9), .val (.ref b10), .val (.ref b12), .val (.ref b12), .unset, .unset] [])) _
      refine Goes.by (fun _ k => XS.iload X13.here hx rfl (hb hby at_129) rfl k) ?_
      show Goes p.tables e below (T13.setTop (mkF m 131 #[.val (.int ps), .val (.int pe), .val (.int pd), .val (.int ps2), .val (.int pe2), .val (.long pp), .second, .val (.int x1), .val (.int x2), .val (.int v3), .val (.int v5), .val (.int v7), .val (.int x9), .val (.ref b10), .val (.ref b12), .val (.ref b12), .unset, .unset] [(.int v3)])) _
      refine Goes.by (fun _ k => XS.iloadN X13.here hx rfl (hb hby at_131) rfl k) ?_
      show Goes p.tables e below (T13.setTop (mkF m 132 #[.val (.int ps), .val (.int pe), .val (.int pd), .val (.int ps2), .val (.int pe2), .val (.long pp), .second, .val (.int x1), .val (.int x2), .val (.int v3), .val (.int v5), .val (.int v7), .val (.int x9), .val (.ref b10), .val (.ref b12), .val (.ref b12), .unset, .unset] [(.int ps), (.int v3)])) _
      obtain ⟨v21, hv21⟩ : ∃ z : Int32, z = (if v3 = ps then (if v5 = pe then (if v7 = pd then (1 : Int32) else (0 : Int32)) else (0 : Int32)) else (0 : Int32)) := ⟨_, rfl⟩
      refine Goes.by (t' := T13.setTop (mkF m 152 #[.val (.int ps), .val (.int pe), .val (.int pd), .val (.int ps2), .val (.int pe2), .val (.long pp), .second, .val (.int x1), .val (.int x2), .val (.int v3), .val (.int v5), .val (.int v7), .val (.int x9), .val (.ref b10), .val (.ref b12), .val (.ref b12), .unset, .unset] [(.int v21)])) (fun u k => ?_) ?_
      · show Steps p.tables e below (T13.setTop (mkF m 132 #[.val (.int ps), .val (.int pe), .val (.int pd), .val (.int ps2), .val (.int pe2), .val (.long pp), .second, .val (.int x1), .val (.int x2), .val (.int v3), .val (.int v5), .val (.int v7), .val (.int x9), .val (.ref b10), .val (.ref b12), .val (.ref b12), .unset, .unset] [(.int ps), (.int v3)])) _
        by_cases hc22 : v3 = ps
        · refine XS.icmpNo X13.here hx rfl (hb hby at_132) rfl (teq hc22).2 ?_
          show Steps p.tables e below (T13.setTop (mkF m 135 #[.val (.int ps), .val (.int pe), .val (.int pd), .val (.int ps2), .val (.int pe2), .val (.long pp), .second, .val (.int x1), .val (.int x2), .val (.int v3), .val (.int v5), .val (.int v7), .val (.int x9), .val (.ref b10), .val (.ref b12), .val (.ref b12), .unset, .unset] [])) _
          refine XS.iload X13.here hx rfl (hb hby at_135) rfl ?_
          show Steps p.tables e below (T13.setTop (mkF m 137 #[.val (.int ps), .val (.int pe), .val (.int pd), .val (.int ps2), .val (.int pe2), .val (.long pp), .second, .val (.int x1), .val (.int x2), .val (.int v3), .val (.int v5), .val (.int v7), .val (.int x9), .val (.ref b10), .val (.ref b12), .val (.ref b12), .unset, .unset] [(.int v5)])) _
          refine XS.iloadN X13.here hx rfl (hb hby at_137) rfl ?_
          show Steps p.tables e below (T13.setTop (mkF m 138 #[.val (.int ps), .val (.int pe), .val (.int pd), .val (.int ps2), .val (.int pe2), .val (.long pp), .second, .val (.int x1), .val (.int x2), .val (.int v3), .val (.int v5), .val (.int v7), .val (.int x9), .val (.ref b10), .val (.ref b12), .val (.ref b12), .unset, .unset] [(.int pe), (.int v5)])) _
          by_cases hc23 : v5 = pe
          · refine XS.icmpNo X13.here hx rfl (hb hby at_138) rfl (teq hc23).2 ?_
            show Steps p.tables e below (T13.setTop (mkF m 141 #[.val (.int ps), .val (.int pe), .val (.int pd), .val (.int ps2), .val (.int pe2), .val (.long pp), .second, .val (.int x1), .val (.int x2), .val (.int v3), .val (.int v5), .val (.int v7), .val (.int x9), .val (.ref b10), .val (.ref b12), .val (.ref b12), .unset, .unset] [])) _
            refine XS.iload X13.here hx rfl (hb hby at_141) rfl ?_
            show Steps p.tables e below (T13.setTop (mkF m 143 #[.val (.int ps), .val (.int pe), .val (.int pd), .val (.int ps2), .val (.int pe2), .val (.long pp), .second, .val (.int x1), .val (.int x2), .val (.int v3), .val (.int v5), .val (.int v7), .val (.int x9), .val (.ref b10), .val (.ref b12), .val (.ref b12), .unset, .unset] [(.int v7)])) _
            refine XS.iloadN X13.here hx rfl (hb hby at_143) rfl ?_
            show Steps p.tables e below (T13.setTop (mkF m 144 #[.val (.int ps), .val (.int pe), .val (.int pd), .val (.int ps2), .val (.int pe2), .val (.long pp), .second, .val (.int x1), .val (.int x2), .val (.int v3), .val (.int v5), .val (.int v7), .val (.int x9), .val (.ref b10), .val (.ref b12), .val (.ref b12), .unset, .unset] [(.int pd), (.int v7)])) _
            by_cases hc24 : v7 = pd
            · refine XS.icmpNo X13.here hx rfl (hb hby at_144) rfl (teq hc24).2 ?_
              show Steps p.tables e below (T13.setTop (mkF m 147 #[.val (.int ps), .val (.int pe), .val (.int pd), .val (.int ps2), .val (.int pe2), .val (.long pp), .second, .val (.int x1), .val (.int x2), .val (.int v3), .val (.int v5), .val (.int v7), .val (.int x9), .val (.ref b10), .val (.ref b12), .val (.ref b12), .unset, .unset] [])) _
              refine XS.iconst X13.here hx rfl (hb hby at_147) ?_
              show Steps p.tables e below (T13.setTop (mkF m 148 #[.val (.int ps), .val (.int pe), .val (.int pd), .val (.int ps2), .val (.int pe2), .val (.long pp), .second, .val (.int x1), .val (.int x2), .val (.int v3), .val (.int v5), .val (.int v7), .val (.int x9), .val (.ref b10), .val (.ref b12), .val (.ref b12), .unset, .unset] [(.int (1 : Int32))])) _
              refine XS.goto X13.here hx rfl (pc0 := 148) (pc' := 152) rfl (hb hby at_148) (by decide) (by decide) ?_
              show Steps p.tables e below (T13.setTop (mkF m 152 #[.val (.int ps), .val (.int pe), .val (.int pd), .val (.int ps2), .val (.int pe2), .val (.long pp), .second, .val (.int x1), .val (.int x2), .val (.int v3), .val (.int v5), .val (.int v7), .val (.int x9), .val (.ref b10), .val (.ref b12), .val (.ref b12), .unset, .unset] [(.int (1 : Int32))])) _
              have qv21 : v21 = (1 : Int32) := by rw [hv21, if_pos hc22, if_pos hc23, if_pos hc24]
              subst qv21
              exact k
            · refine XS.icmpYes X13.here hx rfl (pc0 := 144) (pc' := 151) rfl (hb hby at_144) rfl (feq hc24).2 (by decide) (by decide) ?_
              show Steps p.tables e below (T13.setTop (mkF m 151 #[.val (.int ps), .val (.int pe), .val (.int pd), .val (.int ps2), .val (.int pe2), .val (.long pp), .second, .val (.int x1), .val (.int x2), .val (.int v3), .val (.int v5), .val (.int v7), .val (.int x9), .val (.ref b10), .val (.ref b12), .val (.ref b12), .unset, .unset] [])) _
              refine XS.iconst X13.here hx rfl (hb hby at_151) ?_
              show Steps p.tables e below (T13.setTop (mkF m 152 #[.val (.int ps), .val (.int pe), .val (.int pd), .val (.int ps2), .val (.int pe2), .val (.long pp), .second, .val (.int x1), .val (.int x2), .val (.int v3), .val (.int v5), .val (.int v7), .val (.int x9), .val (.ref b10), .val (.ref b12), .val (.ref b12), .unset, .unset] [(.int (0 : Int32))])) _
              have qv21 : v21 = (0 : Int32) := by rw [hv21, if_pos hc22, if_pos hc23, if_neg hc24]
              subst qv21
              exact k
          · refine XS.icmpYes X13.here hx rfl (pc0 := 138) (pc' := 151) rfl (hb hby at_138) rfl (feq hc23).2 (by decide) (by decide) ?_
            show Steps p.tables e below (T13.setTop (mkF m 151 #[.val (.int ps), .val (.int pe), .val (.int pd), .val (.int ps2), .val (.int pe2), .val (.long pp), .second, .val (.int x1), .val (.int x2), .val (.int v3), .val (.int v5), .val (.int v7), .val (.int x9), .val (.ref b10), .val (.ref b12), .val (.ref b12), .unset, .unset] [])) _
            refine XS.iconst X13.here hx rfl (hb hby at_151) ?_
            show Steps p.tables e below (T13.setTop (mkF m 152 #[.val (.int ps), .val (.int pe), .val (.int pd), .val (.int ps2), .val (.int pe2), .val (.long pp), .second, .val (.int x1), .val (.int x2), .val (.int v3), .val (.int v5), .val (.int v7), .val (.int x9), .val (.ref b10), .val (.ref b12), .val (.ref b12), .unset, .unset] [(.int (0 : Int32))])) _
            have qv21 : v21 = (0 : Int32) := by rw [hv21, if_pos hc22, if_neg hc23]
            subst qv21
            exact k
        · refine XS.icmpYes X13.here hx rfl (pc0 := 132) (pc' := 151) rfl (hb hby at_132) rfl (feq hc22).2 (by decide) (by decide) ?_
          show Steps p.tables e below (T13.setTop (mkF m 151 #[.val (.int ps), .val (.int pe), .val (.int pd), .val (.int ps2), .val (.int pe2), .val (.long pp), .second, .val (.int x1), .val (.int x2), .val (.int v3), .val (.int v5), .val (.int v7), .val (.int x9), .val (.ref b10), .val (.ref b12), .val (.ref b12), .unset, .unset] [])) _
          refine XS.iconst X13.here hx rfl (hb hby at_151) ?_
          show Steps p.tables e below (T13.setTop (mkF m 152 #[.val (.int ps), .val (.int pe), .val (.int pd), .val (.int ps2), .val (.int pe2), .val (.long pp), .second, .val (.int x1), .val (.int x2), .val (.int v3), .val (.int v5), .val (.int v7), .val (.int x9), .val (.ref b10), .val (.ref b12), .val (.ref b12), .unset, .unset] [(.int (0 : Int32))])) _
          have qv21 : v21 = (0 : Int32) := by rw [hv21, if_neg hc22]
          subst qv21
          exact k
      show Goes p.tables e below (T13.setTop (mkF m 152 #[.val (.int ps), .val (.int pe), .val (.int pd), .val (.int ps2), .val (.int pe2), .val (.long pp), .second, .val (.int x1), .val (.int x2), .val (.int v3), .val (.int v5), .val (.int v7), .val (.int x9), .val (.ref b10), .val (.ref b12), .val (.ref b12), .unset, .unset] [(.int v21)])) _
      refine Goes.by (fun _ k => XS.istore X13.here hx rfl (hb hby at_152) rfl (l' := #[.val (.int ps), .val (.int pe), .val (.int pd), .val (.int ps2), .val (.int pe2), .val (.long pp), .second, .val (.int x1), .val (.int x2), .val (.int v3), .val (.int v5), .val (.int v7), .val (.int x9), .val (.ref b10), .val (.ref b12), .val (.ref b12), .val (.int v21), .unset]) rfl k) ?_
      show Goes p.tables e below (T13.setTop (mkF m 154 #[.val (.int ps), .val (.int pe), .val (.int pd), .val (.int ps2), .val (.int pe2), .val (.long pp), .second, .val (.int x1), .val (.int x2), .val (.int v3), .val (.int v5), .val (.int v7), .val (.int x9), .val (.ref b10), .val (.ref b12), .val (.ref b12), .val (.int v21), .unset] [])) _
      refine Goes.by (fun _ k => XS.aload X13.here hx rfl (hb hby at_154) rfl rfl k) ?_
      show Goes p.tables e below (T13.setTop (mkF m 156 #[.val (.int ps), .val (.int pe), .val (.int pd), .val (.int ps2), .val (.int pe2), .val (.long pp), .second, .val (.int x1), .val (.int x2), .val (.int v3), .val (.int v5), .val (.int v7), .val (.int x9), .val (.ref b10), .val (.ref b12), .val (.ref b12), .val (.int v21), .unset] [(.ref b10)])) _
      refine Goes.by (fun _ k => XS.aload X13.here hx rfl (hb hby at_156) rfl rfl k) ?_
      show Goes p.tables e below (T13.setTop (mkF m 158 #[.val (.int ps), .val (.int pe), .val (.int pd), .val (.int ps2), .val (.int pe2), .val (.long pp), .second, .val (.int x1), .val (.int x2), .val (.int v3), .val (.int v5), .val (.int v7), .val (.int x9), .val (.ref b10), .val (.ref b12), .val (.ref b12), .val (.int v21), .unset] [(.ref b12), (.ref b10)])) _
      obtain ⟨cq25, kq25, q25a, q25b, q25c⟩ := isOf hZ rfl E_b10
      obtain ⟨_, _, ⟨T25, L25, k25, n25⟩, -, X25, ⟨Lc25, hQ25, l25, y25, z25⟩, st25⟩ := X13.virtualBack hx (y := (⟨"com/example/treewrite/treewrite/document/Identifier", "equals", "(Ljava/lang/Object;)Z"⟩ : MethodName)) (z := (⟨"com/example/treewrite/treewrite/document/Identifier", "equals", "(Ljava/lang/Object;)Z"⟩ : MethodName)) hown (mvT hZ (hw _ (List.mem_of_getElem? (i := 20) rfl))) (mvT hZ (hw _ (List.mem_of_getElem? (i := 21) rfl))) (notFace_of_selects (args := #[]) (mvT hZ (hw _ (List.mem_of_getElem? (i := 23) rfl)))) (mvT hZ (hw _ (List.mem_of_getElem? (i := 23) rfl))) (mvT hZ (hw _ (List.mem_of_getElem? (i := 22) rfl))) (by decide) (backOf (W := 0) (rm4 l Z a0 hw [] b10 b12 ps pe pd v3 v5 v7 T13.heap n0 Zs13 F_b10_start F_b10_end F_b10_depth F_b12_start F_b12_end F_b12_depth E_b12) hZ (hw _ (List.mem_of_getElem? (i := 24) rfl)) (hw _ (List.mem_of_getElem? (i := 2) rfl)) (by decide) (by decide)) q25a q25c (g := (mkF m 158 #[.val (.int ps), .val (.int pe), .val (.int pd), .val (.int ps2), .val (.int pe2), .val (.long pp), .second, .val (.int x1), .val (.int x2), .val (.int v3), .val (.int v5), .val (.int v7), .val (.int x9), .val (.ref b10), .val (.ref b12), .val (.ref b12), .val (.int v21), .unset] [(.ref b12), (.ref b10)])) rfl (by rw [hml]; rfl) (Steps.refl _) (argsL := [(.ref b12)]) (rest := []) (lenOf pd_3 rfl) rfl (by show 2 * 0 + _ ≤ _; exact Nat.le_of_eq rfl) (hb hby at_158) (fun _ _ => ⟨rfl, rfl, (by decide : 2 + 0 ≤ _), (by decide : 6 + 0 ≤ _)⟩)
      dsimp only [Pt.U, Pt.locs, Pt.cells, Pt.slots] at X25 l25 y25 z25 st25 hQ25
      subst l25 y25 z25
      obtain ⟨rfl, N25q, e25⟩ := hQ25
      have N25 := Fr.app N13 N25q
      refine Goes.via st25 ?_
      show Goes p.tables e below (T25.setTop (mkF m 161 #[.val (.int ps), .val (.int pe), .val (.int pd), .val (.int ps2), .val (.int pe2), .val (.long pp), .second, .val (.int x1), .val (.int x2), .val (.int v3), .val (.int v5), .val (.int v7), .val (.int x9), .val (.ref b10), .val (.ref b12), .val (.ref b12), .val (.int v21), .unset] [(.int (fn4 ps pe pd v3 v5 v7))])) _
      obtain ⟨x26, hx26⟩ : ∃ z : Int32, z = (fn4 ps pe pd v3 v5 v7) := ⟨_, rfl⟩
      refine Goes.by (fun _ k => XS.istore X25.here hx rfl (hb hby at_161) rfl (l' := #[.val (.int ps), .val (.int pe), .val (.int pd), .val (.int ps2), .val (.int pe2), .val (.long pp), .second, .val (.int x1), .val (.int x2), .val (.int v3), .val (.int v5), .val (.int v7), .val (.int x9), .val (.ref b10), .val (.ref b12), .val (.ref b12), .val (.int v21), .val (.int x26)]) (by rw [hx26]; rfl) k) ?_
      show Goes p.tables e below (T25.setTop (mkF m 163 #[.val (.int ps), .val (.int pe), .val (.int pd), .val (.int ps2), .val (.int pe2), .val (.long pp), .second, .val (.int x1), .val (.int x2), .val (.int v3), .val (.int v5), .val (.int v7), .val (.int x9), .val (.ref b10), .val (.ref b12), .val (.ref b12), .val (.int v21), .val (.int x26)] [])) _
      refine Goes.by (fun _ k => XS.iload X25.here hx rfl (hb hby at_163) rfl k) ?_
      show Goes p.tables e below (T25.setTop (mkF m 165 #[.val (.int ps), .val (.int pe), .val (.int pd), .val (.int ps2), .val (.int pe2), .val (.long pp), .second, .val (.int x1), .val (.int x2), .val (.int v3), .val (.int v5), .val (.int v7), .val (.int x9), .val (.ref b10), .val (.ref b12), .val (.ref b12), .val (.int v21), .val (.int x26)] [(.int x26)])) _
      refine Goes.by (fun _ k => XS.iload X25.here hx rfl (hb hby at_165) rfl k) ?_
      show Goes p.tables e below (T25.setTop (mkF m 167 #[.val (.int ps), .val (.int pe), .val (.int pd), .val (.int ps2), .val (.int pe2), .val (.long pp), .second, .val (.int x1), .val (.int x2), .val (.int v3), .val (.int v5), .val (.int v7), .val (.int x9), .val (.ref b10), .val (.ref b12), .val (.ref b12), .val (.int v21), .val (.int x26)] [(.int v21), (.int x26)])) _
      refine Goes.by (fun _ k => XS.icmpYes X25.here hx rfl (pc0 := 167) (pc' := 172) rfl (hb hby at_167) rfl (teq (by rw [hx26, hv21]; exact own_exp _ _ _ _ _ _ : x26 = v21)).1 (by decide) (by decide) k) ?_
      show Goes p.tables e below (T25.setTop (mkF m 172 #[.val (.int ps), .val (.int pe), .val (.int pd), .val (.int ps2), .val (.int pe2), .val (.long pp), .second, .val (.int x1), .val (.int x2), .val (.int v3), .val (.int v5), .val (.int v7), .val (.int x9), .val (.ref b10), .val (.ref b12), .val (.ref b12), .val (.int v21), .val (.int x26)] [])) _
      refine Goes.by (fun _ k => XS.iload X25.here hx rfl (hb hby at_172) rfl k) ?_
      show Goes p.tables e below (T25.setTop (mkF m 174 #[.val (.int ps), .val (.int pe), .val (.int pd), .val (.int ps2), .val (.int pe2), .val (.long pp), .second, .val (.int x1), .val (.int x2), .val (.int v3), .val (.int v5), .val (.int v7), .val (.int x9), .val (.ref b10), .val (.ref b12), .val (.ref b12), .val (.int v21), .val (.int x26)] [(.int x9)])) _
      refine Goes.by (fun _ k => XS.iconst X25.here hx rfl (hb hby at_174) k) ?_
      show Goes p.tables e below (T25.setTop (mkF m 175 #[.val (.int ps), .val (.int pe), .val (.int pd), .val (.int ps2), .val (.int pe2), .val (.long pp), .second, .val (.int x1), .val (.int x2), .val (.int v3), .val (.int v5), .val (.int v7), .val (.int x9), .val (.ref b10), .val (.ref b12), .val (.ref b12), .val (.int v21), .val (.int x26)] [(.int (2 : Int32)), (.int x9)])) _
      refine Goes.by (fun _ k => XS.icmpNo X25.here hx rfl (hb hby at_175) rfl (tlt (own_k _ _ hx9 hc14 hc17 : x9 < (2 : Int32))).2.1 k) ?_
      show Goes p.tables e below (T25.setTop (mkF m 178 #[.val (.int ps), .val (.int pe), .val (.int pd), .val (.int ps2), .val (.int pe2), .val (.long pp), .second, .val (.int x1), .val (.int x2), .val (.int v3), .val (.int v5), .val (.int v7), .val (.int x9), .val (.ref b10), .val (.ref b12), .val (.ref b12), .val (.int v21), .val (.int x26)] [])) _
      refine Goes.by (fun _ k => XS.aload X25.here hx rfl (hb hby at_178) rfl rfl k) ?_
      show Goes p.tables e below (T25.setTop (mkF m 180 #[.val (.int ps), .val (.int pe), .val (.int pd), .val (.int ps2), .val (.int pe2), .val (.long pp), .second, .val (.int x1), .val (.int x2), .val (.int v3), .val (.int v5), .val (.int v7), .val (.int x9), .val (.ref b10), .val (.ref b12), .val (.ref b12), .val (.int v21), .val (.int x26)] [(.ref b12)])) _
      refine Goes.by (fun _ k => XS.aload X25.here hx rfl (hb hby at_180) rfl rfl k) ?_
      show Goes p.tables e below (T25.setTop (mkF m 182 #[.val (.int ps), .val (.int pe), .val (.int pd), .val (.int ps2), .val (.int pe2), .val (.long pp), .second, .val (.int x1), .val (.int x2), .val (.int v3), .val (.int v5), .val (.int v7), .val (.int x9), .val (.ref b10), .val (.ref b12), .val (.ref b12), .val (.int v21), .val (.int x26)] [(.ref b10), (.ref b12)])) _
      obtain ⟨cq27, kq27, q27a, q27b, q27c⟩ := isOf hZ e25 E_b12
      obtain ⟨_, _, ⟨T27, L27, k27, n27⟩, -, X27, ⟨Lc27, hQ27, l27, y27, z27⟩, st27⟩ := X25.virtualBack hx (y := (⟨"com/example/treewrite/treewrite/document/Identifier", "equals", "(Ljava/lang/Object;)Z"⟩ : MethodName)) (z := (⟨"com/example/treewrite/treewrite/document/Identifier", "equals", "(Ljava/lang/Object;)Z"⟩ : MethodName)) hown (mvT hZ (hw _ (List.mem_of_getElem? (i := 20) rfl))) (mvT hZ (hw _ (List.mem_of_getElem? (i := 21) rfl))) (notFace_of_selects (args := #[]) (mvT hZ (hw _ (List.mem_of_getElem? (i := 23) rfl)))) (mvT hZ (hw _ (List.mem_of_getElem? (i := 23) rfl))) (mvT hZ (hw _ (List.mem_of_getElem? (i := 22) rfl))) (by decide) (backOf (W := 0) (rm4 l Z a0 hw [] b12 b10 v3 v5 v7 ps pe pd T13.heap n0 Zs13 F_b12_start F_b12_end F_b12_depth F_b10_start F_b10_end F_b10_depth E_b10) hZ (hw _ (List.mem_of_getElem? (i := 24) rfl)) (hw _ (List.mem_of_getElem? (i := 2) rfl)) (by decide) (by decide)) q27a q27c (g := (mkF m 182 #[.val (.int ps), .val (.int pe), .val (.int pd), .val (.int ps2), .val (.int pe2), .val (.long pp), .second, .val (.int x1), .val (.int x2), .val (.int v3), .val (.int v5), .val (.int v7), .val (.int x9), .val (.ref b10), .val (.ref b12), .val (.ref b12), .val (.int v21), .val (.int x26)] [(.ref b10), (.ref b12)])) rfl (by rw [hml]; rfl) (Steps.refl _) (argsL := [(.ref b10)]) (rest := []) (lenOf pd_3 rfl) rfl (by show 2 * 0 + _ ≤ _; exact Nat.le_of_eq rfl) (hb hby at_182) (fun _ _ => ⟨rfl, e25, (by decide : 2 + 0 ≤ _), (by decide : 6 + 0 ≤ _)⟩)
      dsimp only [Pt.U, Pt.locs, Pt.cells, Pt.slots] at X27 l27 y27 z27 st27 hQ27
      subst l27 y27 z27
      obtain ⟨rfl, N27q, e27⟩ := hQ27
      have N27 := Fr.app N25 N27q
      refine Goes.via st27 ?_
      show Goes p.tables e below (T27.setTop (mkF m 185 #[.val (.int ps), .val (.int pe), .val (.int pd), .val (.int ps2), .val (.int pe2), .val (.long pp), .second, .val (.int x1), .val (.int x2), .val (.int v3), .val (.int v5), .val (.int v7), .val (.int x9), .val (.ref b10), .val (.ref b12), .val (.ref b12), .val (.int v21), .val (.int x26)] [(.int (fn4 v3 v5 v7 ps pe pd))])) _
      refine Goes.by (fun _ k => XS.iload X27.here hx rfl (hb hby at_185) rfl k) ?_
      show Goes p.tables e below (T27.setTop (mkF m 187 #[.val (.int ps), .val (.int pe), .val (.int pd), .val (.int ps2), .val (.int pe2), .val (.long pp), .second, .val (.int x1), .val (.int x2), .val (.int v3), .val (.int v5), .val (.int v7), .val (.int x9), .val (.ref b10), .val (.ref b12), .val (.ref b12), .val (.int v21), .val (.int x26)] [(.int v21), (.int (fn4 v3 v5 v7 ps pe pd))])) _
      refine Goes.by (fun _ k => XS.icmpYes X27.here hx rfl (pc0 := 187) (pc' := 192) rfl (hb hby at_187) rfl (teq (by rw [hv21, own_sym]; exact own_exp _ _ _ _ _ _ : (fn4 v3 v5 v7 ps pe pd) = v21)).1 (by decide) (by decide) k) ?_
      show Goes p.tables e below (T27.setTop (mkF m 192 #[.val (.int ps), .val (.int pe), .val (.int pd), .val (.int ps2), .val (.int pe2), .val (.long pp), .second, .val (.int x1), .val (.int x2), .val (.int v3), .val (.int v5), .val (.int v7), .val (.int x9), .val (.ref b10), .val (.ref b12), .val (.ref b12), .val (.int v21), .val (.int x26)] [])) _
      refine Goes.by (fun _ k => XS.aload X27.here hx rfl (hb hby at_192) rfl rfl k) ?_
      show Goes p.tables e below (T27.setTop (mkF m 194 #[.val (.int ps), .val (.int pe), .val (.int pd), .val (.int ps2), .val (.int pe2), .val (.long pp), .second, .val (.int x1), .val (.int x2), .val (.int v3), .val (.int v5), .val (.int v7), .val (.int x9), .val (.ref b10), .val (.ref b12), .val (.ref b12), .val (.int v21), .val (.int x26)] [(.ref b10)])) _
      refine Goes.by (fun _ k => XS.aload X27.here hx rfl (hb hby at_194) rfl rfl k) ?_
      show Goes p.tables e below (T27.setTop (mkF m 196 #[.val (.int ps), .val (.int pe), .val (.int pd), .val (.int ps2), .val (.int pe2), .val (.long pp), .second, .val (.int x1), .val (.int x2), .val (.int v3), .val (.int v5), .val (.int v7), .val (.int x9), .val (.ref b10), .val (.ref b12), .val (.ref b12), .val (.int v21), .val (.int x26)] [(.ref b10), (.ref b10)])) _
      obtain ⟨cq28, kq28, q28a, q28b, q28c⟩ := isOf hZ e27 E_b10
      obtain ⟨_, _, ⟨T28, L28, k28, n28⟩, -, X28, ⟨Lc28, hQ28, l28, y28, z28⟩, st28⟩ := X27.virtualBack hx (y := (⟨"com/example/treewrite/treewrite/document/Identifier", "equals", "(Ljava/lang/Object;)Z"⟩ : MethodName)) (z := (⟨"com/example/treewrite/treewrite/document/Identifier", "equals", "(Ljava/lang/Object;)Z"⟩ : MethodName)) hown (mvT hZ (hw _ (List.mem_of_getElem? (i := 20) rfl))) (mvT hZ (hw _ (List.mem_of_getElem? (i := 21) rfl))) (notFace_of_selects (args := #[]) (mvT hZ (hw _ (List.mem_of_getElem? (i := 23) rfl)))) (mvT hZ (hw _ (List.mem_of_getElem? (i := 23) rfl))) (mvT hZ (hw _ (List.mem_of_getElem? (i := 22) rfl))) (by decide) (backOf (W := 0) (rm4 l Z a0 hw [] b10 b10 ps pe pd ps pe pd T13.heap n0 Zs13 F_b10_start F_b10_end F_b10_depth F_b10_start F_b10_end F_b10_depth E_b10) hZ (hw _ (List.mem_of_getElem? (i := 24) rfl)) (hw _ (List.mem_of_getElem? (i := 2) rfl)) (by decide) (by decide)) q28a q28c (g := (mkF m 196 #[.val (.int ps), .val (.int pe), .val (.int pd), .val (.int ps2), .val (.int pe2), .val (.long pp), .second, .val (.int x1), .val (.int x2), .val (.int v3), .val (.int v5), .val (.int v7), .val (.int x9), .val (.ref b10), .val (.ref b12), .val (.ref b12), .val (.int v21), .val (.int x26)] [(.ref b10), (.ref b10)])) rfl (by rw [hml]; rfl) (Steps.refl _) (argsL := [(.ref b10)]) (rest := []) (lenOf pd_3 rfl) rfl (by show 2 * 0 + _ ≤ _; exact Nat.le_of_eq rfl) (hb hby at_196) (fun _ _ => ⟨rfl, e27, (by decide : 2 + 0 ≤ _), (by decide : 6 + 0 ≤ _)⟩)
      dsimp only [Pt.U, Pt.locs, Pt.cells, Pt.slots] at X28 l28 y28 z28 st28 hQ28
      subst l28 y28 z28
      obtain ⟨rfl, N28q, e28⟩ := hQ28
      have N28 := Fr.app N27 N28q
      refine Goes.via st28 ?_
      show Goes p.tables e below (T28.setTop (mkF m 199 #[.val (.int ps), .val (.int pe), .val (.int pd), .val (.int ps2), .val (.int pe2), .val (.long pp), .second, .val (.int x1), .val (.int x2), .val (.int v3), .val (.int v5), .val (.int v7), .val (.int x9), .val (.ref b10), .val (.ref b12), .val (.ref b12), .val (.int v21), .val (.int x26)] [(.int (fn4 ps pe pd ps pe pd))])) _
      obtain ⟨fs, hr, hrun, hended, hW, hsame⟩ := X28.leave (v := some (.int (nar .boolean (fn4 ps pe pd ps pe pd)))) (fun h => by rw [Bd.returns] at h; cases h)
      refine ⟨_, _, retN X28 hx (t := .boolean) Bd.returns (by simp) (hb hby at_199) hr, hrun, hended, _, _, rfl, ?_, ⟨_, rfl⟩, hW, hsame.mono (by decide) (by decide)⟩
      show Q0 Z ps pe pd ps2 pe2 pp acac h0 n0 _ T28.heap _
      rw [e28]
      exact ⟨(by rw [own_self]; rfl), N28⟩
set_option maxRecDepth 65536 in
set_option maxHeartbeats 40000000 in
theorem comes_1 {Post : Tables → Env → Array Value → State → Outcome → State → Prop} (hpost : ∀ tb e args s v u, (limb_1_1.after args s (.returned v) u = true ∧ limb_1_2.after args s (.returned v) u = true ∧ True) → FrameEnd s (.returned v) u (Jvm.fieldLocs frame_1_writes args s ++ Jvm.arrayLocs frame_1_arrays args s ++ Jvm.staticLocs frame_1_statics s) 16 128 → Post tb e args s (.returned v) u) :
    ArmFor flags0 classFile x code maxLocals ret World_1 tables_1 room_1 Calls_1 rest_1 Pre_1 Post := by
  intro l hfl _ _ p e ha hc hk s m args below hf hA hF happ hP
  obtain ⟨hcalls, hrest, hpre⟩ := hP
  obtain ⟨-, -, -, hnamed, -, -, -, hat⟩ := (Spec.applies_iff hf).mp happ
  obtain ⟨hg, hn⟩ := and_e (Cond.before_iff.mp (show (Jvm.Cond.and given_1 narrow_1).before args s = true from hpre))
  obtain ⟨g1, g2⟩ := and_e hg
  obtain ⟨g3, g4⟩ := and_e g2
  obtain ⟨g5, g6⟩ := and_e g4
  obtain ⟨g7, g8⟩ := and_e g6
  obtain ⟨g9, g10⟩ := and_e g8
  obtain ⟨g11, g12⟩ := and_e g10
  obtain ⟨w0, w1, w2, w3, w4, w5, rfl⟩ : ∃ w0 w1 w2 w3 w4 w5 : Value, args = #[w0, w1, w2, w3, w4, w5] := by
    have hs : args.size = 6 := by simpa [Cond.value, given_1] using g1
    obtain ⟨L⟩ := args
    match L, hs with
    | [w0, w1, w2, w3, w4, w5], _ => exact ⟨w0, w1, w2, w3, w4, w5, rfl⟩
  have hw := fun d (hd : d ∈ tables_1) => atoms_spec (ws := Jvm.Cond.code x code maxLocals ret :: tables_1) hat d (List.mem_cons_of_mem _ hd)
  have hfit : Fit s := fun {y c} hc i hi => by
    obtain ⟨ha, rfl⟩ := Array.getElem?_eq_some_iff.mp hc
    have q := List.all_eq_true.mp ((Array.all_eq_true_iff_forall_mem.mp hF) _ (Array.getElem_mem ha)) i (List.mem_range.mpr hi)
    simpa [Array.getElem?_eq_getElem hi] using q
  obtain ⟨hsets, hown0⟩ := atoms_of _ (rest_1_c_eq ▸ (show rest_1_c.before _ s = true from hrest))
  have hr0 := Cond.before_iff.mp hown0
  obtain ⟨i0, ei0⟩ := is_v g3
  obtain rfl : w0 = (.int i0) := Option.some.inj ei0
  obtain ⟨i1, ei1⟩ := is_v g5
  obtain rfl : w1 = (.int i1) := Option.some.inj ei1
  obtain ⟨i2, ei2⟩ := is_v g7
  obtain rfl : w2 = (.int i2) := Option.some.inj ei2
  obtain ⟨i3, ei3⟩ := is_v g9
  obtain rfl : w3 = (.int i3) := Option.some.inj ei3
  obtain ⟨i4, ei4⟩ := is_v g11
  obtain rfl : w4 = (.int i4) := Option.some.inj ei4
  obtain ⟨i5, ei5⟩ := isL_v g12
  obtain rfl : w5 = (.long i5) := Option.some.inj ei5
  have ehigh := eqv_i (Term.int_eval (127)) (Cond.before_iff.mp (hsets _ (List.mem_of_getElem? (i := 3) rfl)))
  have S_high : Sta s s.heap "java/lang/Integer$IntegerCache" "high" "I" (.int (127 : Int32)) := Sta.start ehigh (Or.inl (hsets _ (List.mem_of_getElem? (i := 1) rfl)))
  obtain ⟨acac, ecac⟩ := arr_v (Cond.before_iff.mp (hsets _ (List.mem_of_getElem? (i := 4) rfl)))
  have S_cache : Sta s s.heap "java/lang/Integer$IntegerCache" "cache" "[Ljava/lang/Integer;" (.ref acac) := Sta.start ecac (Or.inr ⟨hw _ (List.mem_of_getElem? (i := 50) rfl), hsets _ (List.mem_of_getElem? (i := 2) rfl)⟩)
  obtain ⟨ccac, Acac⟩ := Arr.start ecac (Cond.before_iff.mp (hsets _ (List.mem_of_getElem? (i := 4) rfl)))
  have hcac : Cac s acac := own_cac ecac Acac (Cond.before_iff.mp (hsets _ (List.mem_of_getElem? (i := 6) rfl))) (Cond.before_iff.mp (hsets _ (List.mem_of_getElem? (i := 7) rfl)))
  obtain ⟨n, o, h1, h2, h3, _, L, rfl, ⟨hv0, N⟩, hq⟩ := rm0 l s _ hw tables_1 i0 i1 i2 i3 i4 i5 acac s.heap s.heap.size (Nat.le_refl _) (Old.start s) S_high S_cache hcac p e ha hc hk s m _ below hf ((Spec.applies_iff_loose hf).mp happ).1 ⟨rfl, State.Warmed39.refl s, rfl⟩ trivial
  subst hv0
  refine ⟨n, _, h1, h2, h3, hpost _ _ _ _ _ _ ⟨Cond.after_iff.mpr rfl, Cond.after_iff.mpr (eq_i res_at (Term.int_eval (1)) rfl), trivial⟩ ⟨hq.1, hq.2.1, (hq.2.2.sift fun y hy => Or.inr (N y hy)).mono (by decide) (by decide)⟩⟩
theorem main_1_1 : Claimed_1_1 := comes_1 fun _ _ _ _ _ _ h hF => ⟨h.1, hF⟩
theorem main_1_2 : Claimed_1_2 := comes_1 fun _ _ _ _ _ _ h hF => ⟨h.2.1, hF⟩
end Jvm.Pilot.@@N@@
namespace Jvm.Pilot.@@N@@
open Jvm Jvm.ClassFile Sem Op Lib Jvm.Free Jvm.Stand Jvm.Pilot.@@N@@.Jvm.D
/-! MADE BY PROGRAM (witnessworld.py) out of the Statement's table words and the real class files: 17 classes; the members and pool entries that the words name. The judged class is class 1, her method 1. -/
namespace start1
open Jvm.ClassFile
def u (s : String) : CpInfo := .utf8 (stringToUtf16 s)
/-- a pool by its gaps: so many unusable entries, then the entry; so many at the end -/
def gap : Nat → List CpInfo → List CpInfo
  | 0, r => r
  | n + 1, r => .unusable :: gap n r
def poolList (es : List (Nat × CpInfo)) (last : Nat) : List CpInfo := es.foldr (fun e r => gap e.1 (e.2 :: r)) (gap last [])
def pool (es : List (Nat × CpInfo)) (last : Nat) : Array CpInfo := ⟨poolList es last⟩
def fileOf (pool : Array CpInfo) (this : Nat) (attrs : Array Attribute := #[]) (ms : Array MethodInfo := #[]) (fl : Nat := 33) (sup : Nat := 0) (ifs : Array Nat := #[]) (fds : Array FieldInfo := #[]) : ClassFile where
  minorVersion := 0
  majorVersion := 65
  constantPool := pool
  accessFlags := fl
  thisClass := this
  superClass := sup
  interfaces := ifs
  fields := fds
  methods := ms
  attributes := attrs
def plain (name : String) (sup : Option ClassId) : Class where
  name := name
  kind := .ordinary
  loader := none
  accessFlags := 33
  super := sup
  interfaces := #[]
  cf := none
  fields := #[]
  methods := #[]
  instanceTypes := #[]
  staticTypes := #[]
  resolved := #[]
  callSites := []
  init := .initialized
  statics := none
  mirror := none

def pool0 : Array CpInfo := pool [(5, u "<init>"), (0, u "()V"), (1, .class_ 10), (1, u "java/lang/Object")] 113

def k0c0 : Code := { maxStack := 0, maxLocals := 1, code := object_method_1_code, exceptionTable := #[], attributes := #[] }
def k0m0 : Method := { name := "<init>", desc := "()V", sig := { parameters := [], returnType := none }, accessFlags := 1, code := some k0c0 }
/-- java/lang/Object -/
def k0 : Class := { plain "java/lang/Object" none with
  accessFlags := 33
  interfaces := #[]
  cf := some (fileOf pool0 8 #[] #[{ accessFlags := 1, nameIndex := 5, descriptorIndex := 6, attributes := #[] }] 33 0 #[] #[])
  fields := #[]
  methods := #[k0m0]
  instanceTypes := #[]
  staticTypes := #[]
  resolved := Array.replicate 124 none
  statics := none }

def pool1 : Array CpInfo := pool [(2, .class_ 4), (1, u "java/lang/Object"), (0, u "<init>"), (0, u "()V"), (0, .class_ 8), (0, u "com/example/treewrite/treewrite/document/Identifier"), (0, .methodref 7 10), (0, .nameAndType 5 11), (0, u "(III)V"), (0, .methodref 13 14), (0, .class_ 15), (0, .nameAndType 16 17), (0, u "java/lang/Integer"), (0, u "valueOf"), (0, u "(I)Ljava/lang/Integer;"), (0, .methodref 7 19), (0, .nameAndType 20 21), (0, u "equals"), (0, u "(Ljava/lang/Object;)Z"), (0, .class_ 23), (0, u "com/example/treewrite/treewrite/document/IdentifierEqualsPinLaw"), (2, u "law"), (0, u "(IIIIIJ)Z")] 3

def k1m0 : Method := { name := "<init>", desc := "()V", sig := { parameters := [], returnType := none }, accessFlags := 1, code := none }
def k1c1 : Code := { maxStack := 5, maxLocals := 18, code := code, exceptionTable := #[], attributes := #[] }
def k1m1 : Method := { name := "law", desc := "(IIIIIJ)Z", sig := { parameters := [.int, .int, .int, .int, .int, .long], returnType := some .boolean }, accessFlags := 9, code := some k1c1 }
/-- com/example/treewrite/treewrite/document/IdentifierEqualsPinLaw -/
def k1 : Class := { plain "com/example/treewrite/treewrite/document/IdentifierEqualsPinLaw" (some 0) with
  accessFlags := 49
  interfaces := #[]
  cf := some (fileOf pool1 22 #[] #[{ accessFlags := 1, nameIndex := 5, descriptorIndex := 6, attributes := #[] }, { accessFlags := 9, nameIndex := 26, descriptorIndex := 27, attributes := #[] }] 49 2 #[] #[])
  fields := #[]
  methods := #[k1m0, k1m1]
  instanceTypes := #[]
  staticTypes := #[]
  resolved := Array.replicate 31 none
  statics := none }

def pool2 : Array CpInfo := pool [(1, .methodref 2 3), (0, .class_ 4), (0, .nameAndType 5 6), (0, u "java/lang/Object"), (0, u "<init>"), (0, u "()V"), (0, .class_ 8), (0, u "java/lang/Record")] 13

def k2c0 : Code := { maxStack := 1, maxLocals := 1, code := jdk_30_method_1_code, exceptionTable := #[], attributes := #[] }
def k2m0 : Method := { name := "<init>", desc := "()V", sig := { parameters := [], returnType := none }, accessFlags := 4, code := some k2c0 }
/-- java/lang/Record -/
def k2 : Class := { plain "java/lang/Record" (some 0) with
  accessFlags := 1057
  interfaces := #[]
  cf := some (fileOf pool2 7 #[] #[{ accessFlags := 4, nameIndex := 5, descriptorIndex := 6, attributes := #[] }] 1057 2 #[] #[])
  fields := #[]
  methods := #[k2m0]
  instanceTypes := #[]
  staticTypes := #[]
  resolved := Array.replicate 22 none
  statics := none }

def pool3 : Array CpInfo := pool [(1, .methodref 2 3), (0, .class_ 4), (0, .nameAndType 5 6), (0, u "java/lang/Record"), (0, u "<init>"), (0, u "()V"), (0, .fieldref 8 9), (0, .class_ 10), (0, .nameAndType 11 12), (0, u "com/example/treewrite/treewrite/document/Identifier"), (0, u "start"), (0, u "I"), (0, .fieldref 8 14), (0, .nameAndType 15 12), (0, u "end"), (0, .fieldref 8 17), (0, .nameAndType 18 12), (0, u "depth"), (24, u "(III)V"), (27, u "equals"), (0, u "(Ljava/lang/Object;)Z")] 21

def k3c0 : Code := { maxStack := 2, maxLocals := 4, code := prog_21_method_1_code, exceptionTable := #[], attributes := #[] }
def k3m0 : Method := { name := "<init>", desc := "(III)V", sig := { parameters := [.int, .int, .int], returnType := none }, accessFlags := 1, code := some k3c0 }
def k3c1 : Code := { maxStack := 2, maxLocals := 3, code := prog_21_method_7_code, exceptionTable := #[], attributes := #[] }
def k3m1 : Method := { name := "equals", desc := "(Ljava/lang/Object;)Z", sig := { parameters := [(.object "java/lang/Object")], returnType := some .boolean }, accessFlags := 1, code := some k3c1 }
/-- com/example/treewrite/treewrite/document/Identifier -/
def k3 : Class := { plain "com/example/treewrite/treewrite/document/Identifier" (some 2) with
  accessFlags := 49
  interfaces := #[]
  cf := some (fileOf pool3 8 #[] #[{ accessFlags := 1, nameIndex := 5, descriptorIndex := 43, attributes := #[] }, { accessFlags := 1, nameIndex := 71, descriptorIndex := 72, attributes := #[] }] 49 2 #[] #[{ accessFlags := 18, nameIndex := 11, descriptorIndex := 12, attributes := #[] }, { accessFlags := 18, nameIndex := 15, descriptorIndex := 12, attributes := #[] }, { accessFlags := 18, nameIndex := 18, descriptorIndex := 12, attributes := #[] }])
  fields := #[{ name := "start", type := .int, accessFlags := 18, slot := 0, constantValue := 0 }, { name := "end", type := .int, accessFlags := 18, slot := 1, constantValue := 0 }, { name := "depth", type := .int, accessFlags := 18, slot := 2, constantValue := 0 }]
  methods := #[k3m0, k3m1]
  instanceTypes := #[.int, .int, .int]
  staticTypes := #[]
  resolved := Array.replicate 94 none
  statics := none }

def pool4 : Array CpInfo := pool [(1, .class_ 2), (0, u "java/io/Serializable"), (0, .class_ 4), (0, u "java/lang/Object")] 2

/-- java/io/Serializable -/
def k4 : Class := { plain "java/io/Serializable" (some 0) with
  accessFlags := 1537
  interfaces := #[]
  cf := some (fileOf pool4 1 #[] #[] 1537 3 #[] #[])
  fields := #[]
  methods := #[]
  instanceTypes := #[]
  staticTypes := #[]
  resolved := Array.replicate 7 none
  statics := none }

def pool5 : Array CpInfo := pool [(1, .methodref 2 3), (0, .class_ 4), (0, .nameAndType 5 6), (0, u "java/lang/Object"), (0, u "<init>"), (0, u "()V"), (1, .class_ 10), (1, u "java/lang/Number"), (2, .class_ 14), (0, u "java/io/Serializable"), (0, u "serialVersionUID"), (0, u "J")] 20

def k5c0 : Code := { maxStack := 1, maxLocals := 1, code := jdk_18_method_1_code, exceptionTable := #[], attributes := #[] }
def k5m0 : Method := { name := "<init>", desc := "()V", sig := { parameters := [], returnType := none }, accessFlags := 1, code := some k5c0 }
/-- java/lang/Number -/
def k5 : Class := { plain "java/lang/Number" (some 0) with
  accessFlags := 1057
  interfaces := #[4]
  cf := some (fileOf pool5 8 #[] #[{ accessFlags := 1, nameIndex := 5, descriptorIndex := 6, attributes := #[] }] 1057 2 #[13] #[{ accessFlags := 26, nameIndex := 15, descriptorIndex := 16, attributes := #[] }])
  fields := #[{ name := "serialVersionUID", type := .long, accessFlags := 26, slot := 0, constantValue := 0 }]
  methods := #[k5m0]
  instanceTypes := #[]
  staticTypes := #[.long]
  resolved := Array.replicate 37 none
  statics := none }

def pool6 : Array CpInfo := pool [(1, .class_ 2), (0, u "java/lang/Comparable"), (0, .class_ 4), (0, u "java/lang/Object")] 7

/-- java/lang/Comparable -/
def k6 : Class := { plain "java/lang/Comparable" (some 0) with
  accessFlags := 1537
  interfaces := #[]
  cf := some (fileOf pool6 1 #[] #[] 1537 3 #[] #[])
  fields := #[]
  methods := #[]
  instanceTypes := #[]
  staticTypes := #[]
  resolved := Array.replicate 12 none
  statics := none }

def pool7 : Array CpInfo := pool [(1, .class_ 2), (0, u "java/lang/constant/Constable"), (0, .class_ 4), (0, u "java/lang/Object")] 6

/-- java/lang/constant/Constable -/
def k7 : Class := { plain "java/lang/constant/Constable" (some 0) with
  accessFlags := 1537
  interfaces := #[]
  cf := some (fileOf pool7 1 #[] #[] 1537 3 #[] #[])
  fields := #[]
  methods := #[]
  instanceTypes := #[]
  staticTypes := #[]
  resolved := Array.replicate 11 none
  statics := none }

def pool8 : Array CpInfo := pool [(1, .class_ 2), (0, u "java/lang/constant/ConstantDesc"), (0, .class_ 4), (0, u "java/lang/Object")] 32

/-- java/lang/constant/ConstantDesc -/
def k8 : Class := { plain "java/lang/constant/ConstantDesc" (some 0) with
  accessFlags := 1537
  interfaces := #[]
  cf := some (fileOf pool8 1 #[] #[] 1537 3 #[] #[])
  fields := #[]
  methods := #[]
  instanceTypes := #[]
  staticTypes := #[]
  resolved := Array.replicate 37 none
  statics := none }

def pool9 : Array CpInfo := pool [(1, .class_ 2), (0, u "java/lang/Integer"), (16, u "digits"), (0, u "[C"), (46, u "<init>"), (17, u "DigitOnes"), (0, u "[B"), (2, u "DigitTens"), (10, .nameAndType 67 101), (0, u "()V"), (85, u "valueOf"), (0, u "(I)Ljava/lang/Integer;"), (0, .class_ 190), (0, u "java/lang/Integer$IntegerCache"), (0, .fieldref 189 192), (0, .nameAndType 193 194), (0, u "high"), (0, u "I"), (0, .fieldref 189 196), (0, .nameAndType 197 198), (0, u "cache"), (0, u "[Ljava/lang/Integer;"), (0, .methodref 1 200), (0, .nameAndType 67 201), (0, u "(I)V"), (0, .methodref 203 100), (0, .class_ 204), (0, u "java/lang/Number"), (0, .fieldref 1 206), (0, .nameAndType 207 194), (0, u "value"), (94, u "TYPE"), (0, u "Ljava/lang/Class;"), (0, .class_ 305), (0, u "java/lang/Comparable"), (0, .class_ 307), (0, u "java/lang/constant/Constable"), (0, .class_ 309), (0, u "java/lang/constant/ConstantDesc"), (0, u "MIN_VALUE"), (1, u "MAX_VALUE"), (3, u "SIZE"), (1, u "BYTES"), (1, u "serialVersionUID"), (0, u "J")] 131

def k9c0 : Code := { maxStack := 3, maxLocals := 1, code := jdk_33_method_22_code, exceptionTable := #[], attributes := #[] }
def k9m0 : Method := { name := "valueOf", desc := "(I)Ljava/lang/Integer;", sig := { parameters := [.int], returnType := some (.object "java/lang/Integer") }, accessFlags := 9, code := some k9c0 }
def k9c1 : Code := { maxStack := 2, maxLocals := 2, code := jdk_33_method_23_code, exceptionTable := #[], attributes := #[] }
def k9m1 : Method := { name := "<init>", desc := "(I)V", sig := { parameters := [.int], returnType := none }, accessFlags := 1, code := some k9c1 }
/-- java/lang/Integer -/
def k9 : Class := { plain "java/lang/Integer" (some 5) with
  accessFlags := 49
  interfaces := #[6, 7, 8]
  cf := some (fileOf pool9 1 #[.nestMembers #[189]] #[{ accessFlags := 9, nameIndex := 187, descriptorIndex := 188, attributes := #[] }, { accessFlags := 1, nameIndex := 67, descriptorIndex := 201, attributes := #[] }] 49 203 #[304, 306, 308] #[{ accessFlags := 25, nameIndex := 310, descriptorIndex := 194, attributes := #[] }, { accessFlags := 25, nameIndex := 312, descriptorIndex := 194, attributes := #[] }, { accessFlags := 25, nameIndex := 302, descriptorIndex := 303, attributes := #[] }, { accessFlags := 24, nameIndex := 19, descriptorIndex := 20, attributes := #[] }, { accessFlags := 24, nameIndex := 89, descriptorIndex := 86, attributes := #[] }, { accessFlags := 24, nameIndex := 85, descriptorIndex := 86, attributes := #[] }, { accessFlags := 18, nameIndex := 207, descriptorIndex := 194, attributes := #[] }, { accessFlags := 25, nameIndex := 316, descriptorIndex := 194, attributes := #[] }, { accessFlags := 25, nameIndex := 318, descriptorIndex := 194, attributes := #[] }, { accessFlags := 26, nameIndex := 320, descriptorIndex := 321, attributes := #[] }])
  fields := #[{ name := "MIN_VALUE", type := .int, accessFlags := 25, slot := 0, constantValue := 0 }, { name := "MAX_VALUE", type := .int, accessFlags := 25, slot := 1, constantValue := 0 }, { name := "TYPE", type := (.object "java/lang/Class"), accessFlags := 25, slot := 2, constantValue := 0 }, { name := "digits", type := (.array .char), accessFlags := 24, slot := 3, constantValue := 0 }, { name := "DigitTens", type := (.array .byte), accessFlags := 24, slot := 4, constantValue := 0 }, { name := "DigitOnes", type := (.array .byte), accessFlags := 24, slot := 5, constantValue := 0 }, { name := "value", type := .int, accessFlags := 18, slot := 0, constantValue := 0 }, { name := "SIZE", type := .int, accessFlags := 25, slot := 6, constantValue := 0 }, { name := "BYTES", type := .int, accessFlags := 25, slot := 7, constantValue := 0 }, { name := "serialVersionUID", type := .long, accessFlags := 26, slot := 8, constantValue := 0 }]
  methods := #[k9m0, k9m1]
  instanceTypes := #[.int]
  staticTypes := #[.int, .int, (.object "java/lang/Class"), (.array .char), (.array .byte), (.array .byte), .int, .int, .long]
  resolved := Array.replicate 453 none
  statics := none }

def pool10 : Array CpInfo := pool [(2, .class_ 4), (1, u "java/lang/Object"), (0, u "<init>"), (0, u "()V"), (0, .class_ 8), (0, u "java/lang/Integer"), (7, .class_ 18), (1, u "java/lang/Integer$IntegerCache"), (0, u "$assertionsDisabled"), (0, u "Z"), (26, u "high"), (0, u "I"), (8, u "archivedCache"), (0, u "[Ljava/lang/Integer;"), (12, u "cache"), (0, u "low")] 27

def k10m0 : Method := { name := "<init>", desc := "()V", sig := { parameters := [], returnType := none }, accessFlags := 2, code := none }
/-- java/lang/Integer$IntegerCache -/
def k10 : Class := { plain "java/lang/Integer$IntegerCache" (some 0) with
  accessFlags := 48
  interfaces := #[]
  cf := some (fileOf pool10 16 #[.nestHost 7] #[{ accessFlags := 2, nameIndex := 5, descriptorIndex := 6, attributes := #[] }] 48 2 #[] #[{ accessFlags := 24, nameIndex := 72, descriptorIndex := 48, attributes := #[] }, { accessFlags := 24, nameIndex := 47, descriptorIndex := 48, attributes := #[] }, { accessFlags := 24, nameIndex := 71, descriptorIndex := 58, attributes := #[] }, { accessFlags := 8, nameIndex := 57, descriptorIndex := 58, attributes := #[] }, { accessFlags := 4120, nameIndex := 19, descriptorIndex := 20, attributes := #[] }])
  fields := #[{ name := "low", type := .int, accessFlags := 24, slot := 0, constantValue := 0 }, { name := "high", type := .int, accessFlags := 24, slot := 1, constantValue := 0 }, { name := "cache", type := (.array (.object "java/lang/Integer")), accessFlags := 24, slot := 2, constantValue := 0 }, { name := "archivedCache", type := (.array (.object "java/lang/Integer")), accessFlags := 8, slot := 3, constantValue := 0 }, { name := "$assertionsDisabled", type := .boolean, accessFlags := 4120, slot := 4, constantValue := 0 }]
  methods := #[k10m0]
  instanceTypes := #[]
  staticTypes := #[.int, .int, (.array (.object "java/lang/Integer")), (.array (.object "java/lang/Integer")), .boolean]
  resolved := Array.replicate 100 none
  statics := some 0 }

def pool11 : Array CpInfo := pool [(1, u "java/lang/Cloneable"), (0, .class_ 1), (0, u "java/lang/Object"), (0, .class_ 3)] 3

/-- java/lang/Cloneable -/
def k11 : Class := { plain "java/lang/Cloneable" (some 0) with
  accessFlags := 1537
  interfaces := #[]
  cf := some (fileOf pool11 2 #[] #[] 1537 4 #[] #[])
  fields := #[]
  methods := #[]
  instanceTypes := #[]
  staticTypes := #[]
  resolved := Array.replicate 8 none
  statics := none }

/-- the primitive byte -/
def k12 : Class := { plain "byte" none with kind := .primitive 'B', accessFlags := 0x411 }
/-- [B -/
def k13 : Class := { plain "[B" (some 0) with kind := .array 12 .byte, interfaces := #[11, 4], accessFlags := 1041 }

/-- the primitive int -/
def k14 : Class := { plain "int" none with kind := .primitive 'I', accessFlags := 0x411 }
/-- [I -/
def k15 : Class := { plain "[I" (some 0) with kind := .array 14 .int, interfaces := #[11, 4], accessFlags := 1041 }

/-- [Ljava/lang/Integer; -/
def k16 : Class := { plain "[Ljava/lang/Integer;" (some 0) with kind := .array 9 (.object "java/lang/Integer"), interfaces := #[11, 4], accessFlags := 1041 }

def heap : Heap := #[{ cls := 10, slots := #[.int 0, .int 127, .ref 1, .null, .int 0], vm := .statics 10 },
  { cls := 16, slots := #[.ref 2, .ref 3, .ref 4, .ref 5, .ref 6, .ref 7, .ref 8, .ref 9, .ref 10, .ref 11, .ref 12, .ref 13, .ref 14, .ref 15, .ref 16, .ref 17, .ref 18, .ref 19, .ref 20, .ref 21, .ref 22, .ref 23, .ref 24, .ref 25, .ref 26, .ref 27, .ref 28, .ref 29, .ref 30, .ref 31, .ref 32, .ref 33, .ref 34, .ref 35, .ref 36, .ref 37, .ref 38, .ref 39, .ref 40, .ref 41, .ref 42, .ref 43, .ref 44, .ref 45, .ref 46, .ref 47, .ref 48, .ref 49, .ref 50, .ref 51, .ref 52, .ref 53, .ref 54, .ref 55, .ref 56, .ref 57, .ref 58, .ref 59, .ref 60, .ref 61, .ref 62, .ref 63, .ref 64, .ref 65, .ref 66, .ref 67, .ref 68, .ref 69, .ref 70, .ref 71, .ref 72, .ref 73, .ref 74, .ref 75, .ref 76, .ref 77, .ref 78, .ref 79, .ref 80, .ref 81, .ref 82, .ref 83, .ref 84, .ref 85, .ref 86, .ref 87, .ref 88, .ref 89, .ref 90, .ref 91, .ref 92, .ref 93, .ref 94, .ref 95, .ref 96, .ref 97, .ref 98, .ref 99, .ref 100, .ref 101, .ref 102, .ref 103, .ref 104, .ref 105, .ref 106, .ref 107, .ref 108, .ref 109, .ref 110, .ref 111, .ref 112, .ref 113, .ref 114, .ref 115, .ref 116, .ref 117, .ref 118, .ref 119, .ref 120, .ref 121, .ref 122, .ref 123, .ref 124, .ref 125, .ref 126, .ref 127, .ref 128, .ref 129, .ref 130, .ref 131, .ref 132, .ref 133, .ref 134, .ref 135, .ref 136, .ref 137, .ref 138, .ref 139, .ref 140, .ref 141, .ref 142, .ref 143, .ref 144, .ref 145, .ref 146, .ref 147, .ref 148, .ref 149, .ref 150, .ref 151, .ref 152, .ref 153, .ref 154, .ref 155, .ref 156, .ref 157, .ref 158, .ref 159, .ref 160, .ref 161, .ref 162, .ref 163, .ref 164, .ref 165, .ref 166, .ref 167, .ref 168, .ref 169, .ref 170, .ref 171, .ref 172, .ref 173, .ref 174, .ref 175, .ref 176, .ref 177, .ref 178, .ref 179, .ref 180, .ref 181, .ref 182, .ref 183, .ref 184, .ref 185, .ref 186, .ref 187, .ref 188, .ref 189, .ref 190, .ref 191, .ref 192, .ref 193, .ref 194, .ref 195, .ref 196, .ref 197, .ref 198, .ref 199, .ref 200, .ref 201, .ref 202, .ref 203, .ref 204, .ref 205, .ref 206, .ref 207, .ref 208, .ref 209, .ref 210, .ref 211, .ref 212, .ref 213, .ref 214, .ref 215, .ref 216, .ref 217, .ref 218, .ref 219, .ref 220, .ref 221, .ref 222, .ref 223, .ref 224, .ref 225, .ref 226, .ref 227, .ref 228, .ref 229, .ref 230, .ref 231, .ref 232, .ref 233, .ref 234, .ref 235, .ref 236, .ref 237, .ref 238, .ref 239, .ref 240, .ref 241, .ref 242, .ref 243, .ref 244, .ref 245, .ref 246, .ref 247, .ref 248, .ref 249, .ref 250, .ref 251, .ref 252, .ref 253, .ref 254, .ref 255, .ref 256, .ref 257], vm := .none },
  { cls := 9, slots := #[.int (-128)], vm := .none },
  { cls := 9, slots := #[.int (-127)], vm := .none },
  { cls := 9, slots := #[.int (-126)], vm := .none },
  { cls := 9, slots := #[.int (-125)], vm := .none },
  { cls := 9, slots := #[.int (-124)], vm := .none },
  { cls := 9, slots := #[.int (-123)], vm := .none },
  { cls := 9, slots := #[.int (-122)], vm := .none },
  { cls := 9, slots := #[.int (-121)], vm := .none },
  { cls := 9, slots := #[.int (-120)], vm := .none },
  { cls := 9, slots := #[.int (-119)], vm := .none },
  { cls := 9, slots := #[.int (-118)], vm := .none },
  { cls := 9, slots := #[.int (-117)], vm := .none },
  { cls := 9, slots := #[.int (-116)], vm := .none },
  { cls := 9, slots := #[.int (-115)], vm := .none },
  { cls := 9, slots := #[.int (-114)], vm := .none },
  { cls := 9, slots := #[.int (-113)], vm := .none },
  { cls := 9, slots := #[.int (-112)], vm := .none },
  { cls := 9, slots := #[.int (-111)], vm := .none },
  { cls := 9, slots := #[.int (-110)], vm := .none },
  { cls := 9, slots := #[.int (-109)], vm := .none },
  { cls := 9, slots := #[.int (-108)], vm := .none },
  { cls := 9, slots := #[.int (-107)], vm := .none },
  { cls := 9, slots := #[.int (-106)], vm := .none },
  { cls := 9, slots := #[.int (-105)], vm := .none },
  { cls := 9, slots := #[.int (-104)], vm := .none },
  { cls := 9, slots := #[.int (-103)], vm := .none },
  { cls := 9, slots := #[.int (-102)], vm := .none },
  { cls := 9, slots := #[.int (-101)], vm := .none },
  { cls := 9, slots := #[.int (-100)], vm := .none },
  { cls := 9, slots := #[.int (-99)], vm := .none },
  { cls := 9, slots := #[.int (-98)], vm := .none },
  { cls := 9, slots := #[.int (-97)], vm := .none },
  { cls := 9, slots := #[.int (-96)], vm := .none },
  { cls := 9, slots := #[.int (-95)], vm := .none },
  { cls := 9, slots := #[.int (-94)], vm := .none },
  { cls := 9, slots := #[.int (-93)], vm := .none },
  { cls := 9, slots := #[.int (-92)], vm := .none },
  { cls := 9, slots := #[.int (-91)], vm := .none },
  { cls := 9, slots := #[.int (-90)], vm := .none },
  { cls := 9, slots := #[.int (-89)], vm := .none },
  { cls := 9, slots := #[.int (-88)], vm := .none },
  { cls := 9, slots := #[.int (-87)], vm := .none },
  { cls := 9, slots := #[.int (-86)], vm := .none },
  { cls := 9, slots := #[.int (-85)], vm := .none },
  { cls := 9, slots := #[.int (-84)], vm := .none },
  { cls := 9, slots := #[.int (-83)], vm := .none },
  { cls := 9, slots := #[.int (-82)], vm := .none },
  { cls := 9, slots := #[.int (-81)], vm := .none },
  { cls := 9, slots := #[.int (-80)], vm := .none },
  { cls := 9, slots := #[.int (-79)], vm := .none },
  { cls := 9, slots := #[.int (-78)], vm := .none },
  { cls := 9, slots := #[.int (-77)], vm := .none },
  { cls := 9, slots := #[.int (-76)], vm := .none },
  { cls := 9, slots := #[.int (-75)], vm := .none },
  { cls := 9, slots := #[.int (-74)], vm := .none },
  { cls := 9, slots := #[.int (-73)], vm := .none },
  { cls := 9, slots := #[.int (-72)], vm := .none },
  { cls := 9, slots := #[.int (-71)], vm := .none },
  { cls := 9, slots := #[.int (-70)], vm := .none },
  { cls := 9, slots := #[.int (-69)], vm := .none },
  { cls := 9, slots := #[.int (-68)], vm := .none },
  { cls := 9, slots := #[.int (-67)], vm := .none },
  { cls := 9, slots := #[.int (-66)], vm := .none },
  { cls := 9, slots := #[.int (-65)], vm := .none },
  { cls := 9, slots := #[.int (-64)], vm := .none },
  { cls := 9, slots := #[.int (-63)], vm := .none },
  { cls := 9, slots := #[.int (-62)], vm := .none },
  { cls := 9, slots := #[.int (-61)], vm := .none },
  { cls := 9, slots := #[.int (-60)], vm := .none },
  { cls := 9, slots := #[.int (-59)], vm := .none },
  { cls := 9, slots := #[.int (-58)], vm := .none },
  { cls := 9, slots := #[.int (-57)], vm := .none },
  { cls := 9, slots := #[.int (-56)], vm := .none },
  { cls := 9, slots := #[.int (-55)], vm := .none },
  { cls := 9, slots := #[.int (-54)], vm := .none },
  { cls := 9, slots := #[.int (-53)], vm := .none },
  { cls := 9, slots := #[.int (-52)], vm := .none },
  { cls := 9, slots := #[.int (-51)], vm := .none },
  { cls := 9, slots := #[.int (-50)], vm := .none },
  { cls := 9, slots := #[.int (-49)], vm := .none },
  { cls := 9, slots := #[.int (-48)], vm := .none },
  { cls := 9, slots := #[.int (-47)], vm := .none },
  { cls := 9, slots := #[.int (-46)], vm := .none },
  { cls := 9, slots := #[.int (-45)], vm := .none },
  { cls := 9, slots := #[.int (-44)], vm := .none },
  { cls := 9, slots := #[.int (-43)], vm := .none },
  { cls := 9, slots := #[.int (-42)], vm := .none },
  { cls := 9, slots := #[.int (-41)], vm := .none },
  { cls := 9, slots := #[.int (-40)], vm := .none },
  { cls := 9, slots := #[.int (-39)], vm := .none },
  { cls := 9, slots := #[.int (-38)], vm := .none },
  { cls := 9, slots := #[.int (-37)], vm := .none },
  { cls := 9, slots := #[.int (-36)], vm := .none },
  { cls := 9, slots := #[.int (-35)], vm := .none },
  { cls := 9, slots := #[.int (-34)], vm := .none },
  { cls := 9, slots := #[.int (-33)], vm := .none },
  { cls := 9, slots := #[.int (-32)], vm := .none },
  { cls := 9, slots := #[.int (-31)], vm := .none },
  { cls := 9, slots := #[.int (-30)], vm := .none },
  { cls := 9, slots := #[.int (-29)], vm := .none },
  { cls := 9, slots := #[.int (-28)], vm := .none },
  { cls := 9, slots := #[.int (-27)], vm := .none },
  { cls := 9, slots := #[.int (-26)], vm := .none },
  { cls := 9, slots := #[.int (-25)], vm := .none },
  { cls := 9, slots := #[.int (-24)], vm := .none },
  { cls := 9, slots := #[.int (-23)], vm := .none },
  { cls := 9, slots := #[.int (-22)], vm := .none },
  { cls := 9, slots := #[.int (-21)], vm := .none },
  { cls := 9, slots := #[.int (-20)], vm := .none },
  { cls := 9, slots := #[.int (-19)], vm := .none },
  { cls := 9, slots := #[.int (-18)], vm := .none },
  { cls := 9, slots := #[.int (-17)], vm := .none },
  { cls := 9, slots := #[.int (-16)], vm := .none },
  { cls := 9, slots := #[.int (-15)], vm := .none },
  { cls := 9, slots := #[.int (-14)], vm := .none },
  { cls := 9, slots := #[.int (-13)], vm := .none },
  { cls := 9, slots := #[.int (-12)], vm := .none },
  { cls := 9, slots := #[.int (-11)], vm := .none },
  { cls := 9, slots := #[.int (-10)], vm := .none },
  { cls := 9, slots := #[.int (-9)], vm := .none },
  { cls := 9, slots := #[.int (-8)], vm := .none },
  { cls := 9, slots := #[.int (-7)], vm := .none },
  { cls := 9, slots := #[.int (-6)], vm := .none },
  { cls := 9, slots := #[.int (-5)], vm := .none },
  { cls := 9, slots := #[.int (-4)], vm := .none },
  { cls := 9, slots := #[.int (-3)], vm := .none },
  { cls := 9, slots := #[.int (-2)], vm := .none },
  { cls := 9, slots := #[.int (-1)], vm := .none },
  { cls := 9, slots := #[.int 0], vm := .none },
  { cls := 9, slots := #[.int 1], vm := .none },
  { cls := 9, slots := #[.int 2], vm := .none },
  { cls := 9, slots := #[.int 3], vm := .none },
  { cls := 9, slots := #[.int 4], vm := .none },
  { cls := 9, slots := #[.int 5], vm := .none },
  { cls := 9, slots := #[.int 6], vm := .none },
  { cls := 9, slots := #[.int 7], vm := .none },
  { cls := 9, slots := #[.int 8], vm := .none },
  { cls := 9, slots := #[.int 9], vm := .none },
  { cls := 9, slots := #[.int 10], vm := .none },
  { cls := 9, slots := #[.int 11], vm := .none },
  { cls := 9, slots := #[.int 12], vm := .none },
  { cls := 9, slots := #[.int 13], vm := .none },
  { cls := 9, slots := #[.int 14], vm := .none },
  { cls := 9, slots := #[.int 15], vm := .none },
  { cls := 9, slots := #[.int 16], vm := .none },
  { cls := 9, slots := #[.int 17], vm := .none },
  { cls := 9, slots := #[.int 18], vm := .none },
  { cls := 9, slots := #[.int 19], vm := .none },
  { cls := 9, slots := #[.int 20], vm := .none },
  { cls := 9, slots := #[.int 21], vm := .none },
  { cls := 9, slots := #[.int 22], vm := .none },
  { cls := 9, slots := #[.int 23], vm := .none },
  { cls := 9, slots := #[.int 24], vm := .none },
  { cls := 9, slots := #[.int 25], vm := .none },
  { cls := 9, slots := #[.int 26], vm := .none },
  { cls := 9, slots := #[.int 27], vm := .none },
  { cls := 9, slots := #[.int 28], vm := .none },
  { cls := 9, slots := #[.int 29], vm := .none },
  { cls := 9, slots := #[.int 30], vm := .none },
  { cls := 9, slots := #[.int 31], vm := .none },
  { cls := 9, slots := #[.int 32], vm := .none },
  { cls := 9, slots := #[.int 33], vm := .none },
  { cls := 9, slots := #[.int 34], vm := .none },
  { cls := 9, slots := #[.int 35], vm := .none },
  { cls := 9, slots := #[.int 36], vm := .none },
  { cls := 9, slots := #[.int 37], vm := .none },
  { cls := 9, slots := #[.int 38], vm := .none },
  { cls := 9, slots := #[.int 39], vm := .none },
  { cls := 9, slots := #[.int 40], vm := .none },
  { cls := 9, slots := #[.int 41], vm := .none },
  { cls := 9, slots := #[.int 42], vm := .none },
  { cls := 9, slots := #[.int 43], vm := .none },
  { cls := 9, slots := #[.int 44], vm := .none },
  { cls := 9, slots := #[.int 45], vm := .none },
  { cls := 9, slots := #[.int 46], vm := .none },
  { cls := 9, slots := #[.int 47], vm := .none },
  { cls := 9, slots := #[.int 48], vm := .none },
  { cls := 9, slots := #[.int 49], vm := .none },
  { cls := 9, slots := #[.int 50], vm := .none },
  { cls := 9, slots := #[.int 51], vm := .none },
  { cls := 9, slots := #[.int 52], vm := .none },
  { cls := 9, slots := #[.int 53], vm := .none },
  { cls := 9, slots := #[.int 54], vm := .none },
  { cls := 9, slots := #[.int 55], vm := .none },
  { cls := 9, slots := #[.int 56], vm := .none },
  { cls := 9, slots := #[.int 57], vm := .none },
  { cls := 9, slots := #[.int 58], vm := .none },
  { cls := 9, slots := #[.int 59], vm := .none },
  { cls := 9, slots := #[.int 60], vm := .none },
  { cls := 9, slots := #[.int 61], vm := .none },
  { cls := 9, slots := #[.int 62], vm := .none },
  { cls := 9, slots := #[.int 63], vm := .none },
  { cls := 9, slots := #[.int 64], vm := .none },
  { cls := 9, slots := #[.int 65], vm := .none },
  { cls := 9, slots := #[.int 66], vm := .none },
  { cls := 9, slots := #[.int 67], vm := .none },
  { cls := 9, slots := #[.int 68], vm := .none },
  { cls := 9, slots := #[.int 69], vm := .none },
  { cls := 9, slots := #[.int 70], vm := .none },
  { cls := 9, slots := #[.int 71], vm := .none },
  { cls := 9, slots := #[.int 72], vm := .none },
  { cls := 9, slots := #[.int 73], vm := .none },
  { cls := 9, slots := #[.int 74], vm := .none },
  { cls := 9, slots := #[.int 75], vm := .none },
  { cls := 9, slots := #[.int 76], vm := .none },
  { cls := 9, slots := #[.int 77], vm := .none },
  { cls := 9, slots := #[.int 78], vm := .none },
  { cls := 9, slots := #[.int 79], vm := .none },
  { cls := 9, slots := #[.int 80], vm := .none },
  { cls := 9, slots := #[.int 81], vm := .none },
  { cls := 9, slots := #[.int 82], vm := .none },
  { cls := 9, slots := #[.int 83], vm := .none },
  { cls := 9, slots := #[.int 84], vm := .none },
  { cls := 9, slots := #[.int 85], vm := .none },
  { cls := 9, slots := #[.int 86], vm := .none },
  { cls := 9, slots := #[.int 87], vm := .none },
  { cls := 9, slots := #[.int 88], vm := .none },
  { cls := 9, slots := #[.int 89], vm := .none },
  { cls := 9, slots := #[.int 90], vm := .none },
  { cls := 9, slots := #[.int 91], vm := .none },
  { cls := 9, slots := #[.int 92], vm := .none },
  { cls := 9, slots := #[.int 93], vm := .none },
  { cls := 9, slots := #[.int 94], vm := .none },
  { cls := 9, slots := #[.int 95], vm := .none },
  { cls := 9, slots := #[.int 96], vm := .none },
  { cls := 9, slots := #[.int 97], vm := .none },
  { cls := 9, slots := #[.int 98], vm := .none },
  { cls := 9, slots := #[.int 99], vm := .none },
  { cls := 9, slots := #[.int 100], vm := .none },
  { cls := 9, slots := #[.int 101], vm := .none },
  { cls := 9, slots := #[.int 102], vm := .none },
  { cls := 9, slots := #[.int 103], vm := .none },
  { cls := 9, slots := #[.int 104], vm := .none },
  { cls := 9, slots := #[.int 105], vm := .none },
  { cls := 9, slots := #[.int 106], vm := .none },
  { cls := 9, slots := #[.int 107], vm := .none },
  { cls := 9, slots := #[.int 108], vm := .none },
  { cls := 9, slots := #[.int 109], vm := .none },
  { cls := 9, slots := #[.int 110], vm := .none },
  { cls := 9, slots := #[.int 111], vm := .none },
  { cls := 9, slots := #[.int 112], vm := .none },
  { cls := 9, slots := #[.int 113], vm := .none },
  { cls := 9, slots := #[.int 114], vm := .none },
  { cls := 9, slots := #[.int 115], vm := .none },
  { cls := 9, slots := #[.int 116], vm := .none },
  { cls := 9, slots := #[.int 117], vm := .none },
  { cls := 9, slots := #[.int 118], vm := .none },
  { cls := 9, slots := #[.int 119], vm := .none },
  { cls := 9, slots := #[.int 120], vm := .none },
  { cls := 9, slots := #[.int 121], vm := .none },
  { cls := 9, slots := #[.int 122], vm := .none },
  { cls := 9, slots := #[.int 123], vm := .none },
  { cls := 9, slots := #[.int 124], vm := .none },
  { cls := 9, slots := #[.int 125], vm := .none },
  { cls := 9, slots := #[.int 126], vm := .none },
  { cls := 9, slots := #[.int 127], vm := .none }]
def classes : Array Class := #[k0, k1, k2, k3, k4, k5, k6, k7, k8, k9, k10, k11, k12, k13, k14, k15, k16]
def interned : List (Array UInt16 × Addr) := []
def slotsUsed : Nat := 517
def theMethod : MethodId := ⟨1, 1⟩
def args0 : Array Value := #[.int 5, .int 5, .int 5, .int 5, .int 5, .long 6]
def aboutOver (below : List Frame) : State where
  vm := { classes := classes, interned := interned.toArray }
  heap := heap
  slotsUsed := slotsUsed
  threads := #[{ frames := .invoking theMethod args0 :: below }]
def below0 : List Frame := [.native { method := ⟨0, 0⟩, args := #[] }]
def about1 : State := aboutOver below0
def p0 : Program := .bare "" "" ""
def e0 : Env := launch0.env 0 0 0
theorem w_frames : about1.frames = Frame.invoking theMethod args0 :: below0 := rfl
set_option maxRecDepth 65536 in
theorem w_args : argsFit about1.vm theMethod args0 = true := by decide +kernel
set_option maxRecDepth 65536 in
theorem w_heap : heapFits about1 = true := by decide +kernel
set_option maxRecDepth 65536 in
theorem w_runnable : about1.curStatus? = some .runnable := by decide +kernel
set_option maxRecDepth 65536 in
theorem w_alone : about1.alone = true := by decide +kernel
set_option maxRecDepth 65536 in
theorem w_named : about1.methodNamed? x = some theMethod := by decide +kernel
set_option maxRecDepth 65536 in
theorem w_hears : about1.hears theMethod below0 = true := by decide +kernel
set_option maxRecDepth 65536 in
theorem w_ripe : about1.ripe theMethod args0 below0 = true := by decide +kernel
theorem w_running : about1.status = .running := rfl
set_option maxRecDepth 65536 in
theorem w_room : about1.hasRoom e0.platform room_1 = true :=
  launch0.hasRoom_least _ room_1 (by decide +kernel) (by decide +kernel) (by decide +kernel) (by decide +kernel) (by decide +kernel) (by decide +kernel)
theorem allAtoms_all (ts : List Jvm.Cond) (a : Array Jvm.Value) (st : Jvm.State) : (allAtoms ts).before a st = ts.all (fun c => c.before a st) := by
  induction ts with
  | nil => rfl
  | cons c t ih =>
    show (Jvm.Cond.and c (allAtoms t)).before a st = _
    rw [Jvm.Cond.before_and, ih, List.all_cons]
def words1 : List Jvm.Cond := Jvm.Cond.code x code maxLocals ret :: tables_1
/-- a 'code' word, met by the world's own term for the bytes: nothing is compared byte by byte -/
theorem code_word {y : MethodName} {bytes : ByteArray} {mx : Nat} {rt : Option FieldType} {a : Array Value} {s : State} {m : MethodId} {meth : Method} {c : Code} (h1 : s.methodNamed? y = some m) (h2 : s.vm.method? m = some meth) (h3 : meth.code = some c) (h4 : c.code = bytes)
    (h5 : (c.maxLocals == mx && c.exceptionTable.isEmpty && decide (c.maxStack ≤ mostOperands) && decide (meth.sig.returnType = rt) && !meth.locks && decide (parseMethodDescriptor y.desc = some meth.sig)) = true) : (Jvm.Cond.code y bytes mx rt).before a s = true := by
  simp only [Bool.and_eq_true, beq_iff_eq, Bool.not_eq_true', decide_eq_true_eq] at h5
  obtain ⟨⟨⟨⟨⟨g1, g2⟩, g3⟩, g4⟩, g5⟩, g6⟩ := h5
  simp [Cond.before, Cond.holds, Cond.value, h1, h2, h3, h4, g1, g2, g3, g4, g5, g6]
def isCode : Jvm.Cond → Bool
  | .code _ _ _ _ => true
  | _ => false
theorem all_split {L : List Jvm.Cond} {P : Jvm.Cond → Bool} (h1 : L.all (fun c => isCode c || P c) = true) (h2 : ∀ c ∈ L.filter isCode, P c = true) : L.all P = true := by
  refine List.all_eq_true.mpr fun c hc => ?_
  have h := List.all_eq_true.mp h1 c hc
  rcases Bool.eq_false_or_eq_true (isCode c) with hi | hi
  · exact h2 c (List.mem_filter.mpr ⟨hc, hi⟩)
  · simpa [hi] using h
set_option maxRecDepth 65536 in
theorem w_c0 : (Jvm.Cond.code x code maxLocals ret).before args0 about1 = true := code_word (m := ⟨1, 1⟩) (meth := k1m1) (c := k1c1) (by decide +kernel) rfl rfl rfl (by decide +kernel)
set_option maxRecDepth 65536 in
theorem w_c1 : (Jvm.Cond.code ({ cls := "com/example/treewrite/treewrite/document/Identifier", name := "<init>", desc := "(III)V" } : Jvm.MethodName) prog_21_method_1_code (4 : Nat) (Option.none : Option Jvm.ClassFile.FieldType)).before args0 about1 = true := code_word (m := ⟨3, 0⟩) (meth := k3m0) (c := k3c0) (by decide +kernel) rfl rfl rfl (by decide +kernel)
set_option maxRecDepth 65536 in
theorem w_c2 : (Jvm.Cond.code ({ cls := "java/lang/Record", name := "<init>", desc := "()V" } : Jvm.MethodName) jdk_30_method_1_code (1 : Nat) (Option.none : Option Jvm.ClassFile.FieldType)).before args0 about1 = true := code_word (m := ⟨2, 0⟩) (meth := k2m0) (c := k2c0) (by decide +kernel) rfl rfl rfl (by decide +kernel)
set_option maxRecDepth 65536 in
theorem w_c3 : (Jvm.Cond.code ({ cls := "java/lang/Object", name := "<init>", desc := "()V" } : Jvm.MethodName) object_method_1_code (1 : Nat) (Option.none : Option Jvm.ClassFile.FieldType)).before args0 about1 = true := code_word (m := ⟨0, 0⟩) (meth := k0m0) (c := k0c0) (by decide +kernel) rfl rfl rfl (by decide +kernel)
set_option maxRecDepth 65536 in
theorem w_c4 : (Jvm.Cond.code ({ cls := "com/example/treewrite/treewrite/document/Identifier", name := "equals", desc := "(Ljava/lang/Object;)Z" } : Jvm.MethodName) prog_21_method_7_code (3 : Nat) (Option.some Jvm.ClassFile.FieldType.boolean)).before args0 about1 = true := code_word (m := ⟨3, 1⟩) (meth := k3m1) (c := k3c1) (by decide +kernel) rfl rfl rfl (by decide +kernel)
set_option maxRecDepth 65536 in
theorem w_c5 : (Jvm.Cond.code ({ cls := "java/lang/Integer", name := "valueOf", desc := "(I)Ljava/lang/Integer;" } : Jvm.MethodName) jdk_33_method_22_code (1 : Nat) (Option.some (Jvm.ClassFile.FieldType.object "java/lang/Integer"))).before args0 about1 = true := code_word (m := ⟨9, 0⟩) (meth := k9m0) (c := k9c0) (by decide +kernel) rfl rfl rfl (by decide +kernel)
set_option maxRecDepth 65536 in
theorem w_c6 : (Jvm.Cond.code ({ cls := "java/lang/Integer", name := "<init>", desc := "(I)V" } : Jvm.MethodName) jdk_33_method_23_code (2 : Nat) (Option.none : Option Jvm.ClassFile.FieldType)).before args0 about1 = true := code_word (m := ⟨9, 1⟩) (meth := k9m1) (c := k9c1) (by decide +kernel) rfl rfl rfl (by decide +kernel)
set_option maxRecDepth 65536 in
theorem w_c7 : (Jvm.Cond.code ({ cls := "java/lang/Number", name := "<init>", desc := "()V" } : Jvm.MethodName) jdk_18_method_1_code (1 : Nat) (Option.none : Option Jvm.ClassFile.FieldType)).before args0 about1 = true := code_word (m := ⟨5, 0⟩) (meth := k5m0) (c := k5c0) (by decide +kernel) rfl rfl rfl (by decide +kernel)
def codes1 : List Jvm.Cond := [Jvm.Cond.code x code maxLocals ret, Jvm.Cond.code ({ cls := "com/example/treewrite/treewrite/document/Identifier", name := "<init>", desc := "(III)V" } : Jvm.MethodName) prog_21_method_1_code (4 : Nat) (Option.none : Option Jvm.ClassFile.FieldType), Jvm.Cond.code ({ cls := "java/lang/Record", name := "<init>", desc := "()V" } : Jvm.MethodName) jdk_30_method_1_code (1 : Nat) (Option.none : Option Jvm.ClassFile.FieldType), Jvm.Cond.code ({ cls := "java/lang/Object", name := "<init>", desc := "()V" } : Jvm.MethodName) object_method_1_code (1 : Nat) (Option.none : Option Jvm.ClassFile.FieldType), Jvm.Cond.code ({ cls := "com/example/treewrite/treewrite/document/Identifier", name := "equals", desc := "(Ljava/lang/Object;)Z" } : Jvm.MethodName) prog_21_method_7_code (3 : Nat) (Option.some Jvm.ClassFile.FieldType.boolean), Jvm.Cond.code ({ cls := "java/lang/Integer", name := "valueOf", desc := "(I)Ljava/lang/Integer;" } : Jvm.MethodName) jdk_33_method_22_code (1 : Nat) (Option.some (Jvm.ClassFile.FieldType.object "java/lang/Integer")), Jvm.Cond.code ({ cls := "java/lang/Integer", name := "<init>", desc := "(I)V" } : Jvm.MethodName) jdk_33_method_23_code (2 : Nat) (Option.none : Option Jvm.ClassFile.FieldType), Jvm.Cond.code ({ cls := "java/lang/Number", name := "<init>", desc := "()V" } : Jvm.MethodName) jdk_18_method_1_code (1 : Nat) (Option.none : Option Jvm.ClassFile.FieldType)]
set_option maxRecDepth 65536 in
theorem codes_eq : words1.filter isCode = codes1 := rfl
theorem w_codes : ∀ c ∈ words1.filter isCode, c.before args0 about1 = true := by
  rw [codes_eq]
  intro c hc
  simp only [codes1, List.mem_cons, List.not_mem_nil, or_false] at hc
  rcases hc with rfl | rfl | rfl | rfl | rfl | rfl | rfl | rfl
  · exact w_c0
  · exact w_c1
  · exact w_c2
  · exact w_c3
  · exact w_c4
  · exact w_c5
  · exact w_c6
  · exact w_c7
set_option maxRecDepth 65536 in
theorem w_t1 : (words1.take 24).all (fun c => isCode c || c.before args0 about1) = true := by decide +kernel
set_option maxRecDepth 65536 in
theorem w_t2 : ((words1.drop 24).take 24).all (fun c => isCode c || c.before args0 about1) = true := by decide +kernel
set_option maxRecDepth 65536 in
theorem w_t3 : ((words1.drop 24).drop 24).all (fun c => isCode c || c.before args0 about1) = true := by decide +kernel
theorem w_tables : (allAtoms (Jvm.Cond.code x code maxLocals ret :: tables_1)).before args0 about1 = true := by
  rw [allAtoms_all]
  show words1.all (fun c => c.before args0 about1) = true
  refine all_split ?_ w_codes
  rw [← List.take_append_drop 24 words1, List.all_append, w_t1, ← List.take_append_drop 24 (words1.drop 24), List.all_append, w_t2, w_t3]
  rfl
set_option maxRecDepth 65536 in
theorem w_rest : rest_1_c.before args0 about1 = true := by decide +kernel
set_option maxRecDepth 65536 in
theorem w_case : (Jvm.Cond.and given_1 narrow_1).before args0 about1 = true := by decide +kernel
theorem w_applies : (headSpec (Jvm.Cond.code x code maxLocals ret :: tables_1) room_1).applies x e0.platform about1 = true :=
  (Spec.applies_iff w_frames).mpr ⟨w_running, w_runnable, w_alone, w_named, w_hears, w_ripe, w_room, w_tables⟩
theorem atStart : AtStart classFile x code maxLocals ret World_1 tables_1 room_1 Calls_1 rest_1 Pre_1 launch0 p0 e0 about1 theMethod args0 below0 :=
  ⟨lists_1, trivial, launch0.admits_env _ _ _, launch0.least_env, fairChoices_fair.cas, fairChoices_fair.clock, w_frames, w_args, w_heap, w_applies, trivial, w_rest, w_case⟩
end start1
theorem witness_1 : WitnessClaimed_1 := ⟨start1.p0, start1.e0, start1.about1, start1.theMethod, start1.args0, start1.below0, start1.atStart⟩
end Jvm.Pilot.@@N@@
