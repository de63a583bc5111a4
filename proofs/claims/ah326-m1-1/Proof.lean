import JvmDerived
import JvmDerived.Pilot.@@N@@Statement
import JvmDerived.Pilot.@@N@@Code
set_option linter.unusedVariables false
set_option linter.unusedSimpArgs false
namespace Jvm.RoadKit
open Sem ClassFile Op Lib Jvm.Stand Jvm.Free Jvm.LawKit
/-- own: from A the walk comes to its end, and there R holds -/
def OwnGo (tb : Tables) (e : Env) (below : List Frame) (R : State → Outcome → Prop) (A : State) : Prop := ∃ s₂ o, Steps tb e below A s₂ ∧ s₂.status = .running ∧ Ended s₂ below o ∧ R s₂ o
theorem OwnGo.fwd {tb : Tables} {e : Env} {below : List Frame} {R : State → Outcome → Prop} {A B : State} (h : ∀ t, Steps tb e below B t → Steps tb e below A t) (k : OwnGo tb e below R B) : OwnGo tb e below R A := by
  obtain ⟨s, o, h1, h2⟩ := k
  exact ⟨s, o, h s h1, h2⟩
theorem OwnGo.thru {tb : Tables} {e : Env} {below : List Frame} {R : State → Outcome → Prop} {A B : State} (h : Steps tb e below A B) (k : OwnGo tb e below R B) : OwnGo tb e below R A := k.fwd fun _ q => h.trans q
/-- own: what a body leaves -/
def OwnEnd (s : State) (Q : Option Value → Heap → List Loc → Prop) (k n : Nat) : State → Outcome → Prop := fun U o => ∃ v L, o = .returned v ∧ Q v U.heap L ∧ FrameEnd s o U L k n
section OwnLeaf
variable {p : Program} {l : Launch} {e : Env} {R : Room} {s : State} {m : MethodId} {args : Array Value} {below : List Frame} {meth : Method} {c : Code} {T : State} {locs : List Loc} {cells slots : Nat} {Z : State} {a0 : Array Value} {h : Heap} {Q : Option Value → Heap → List Loc → Prop} {k n : Nat}
theorem own_leaf (X : Stand p l e R s m args below meth c T locs cells slots) (hlk : meth.locks = false) {v : Option Value} (hv : meth.sig.returnType = none → v = none) {g : JFrame} (hc : cells ≤ k) (hs : slots ≤ n) (eT : T.heap = h) (hQ : Q v h locs)
    (hl : ∀ fs, (∀ (f : JFrame) (acts : List Action), f.method = m → f.locked = none → f.entered = [] → (doReturn e (T.setTop f) acts v).1 = T.setFrames fs) → Steps p.tables e below (T.setTop g) (T.setFrames fs)) :
    OwnGo p.tables e below (OwnEnd s Q k n) (T.setTop g) := by
  obtain ⟨fs, hr, hrun, hended, hW, hsame⟩ := X.leave (v := v) hv hlk
  refine ⟨_, _, hl fs hr, hrun, hended, _, _, rfl, ?_, ⟨_, rfl⟩, hW, hsame.mono hc hs⟩
  show Q v T.heap locs
  rw [eT]; exact hQ
theorem own_retI (X : Stand p l e R s m args below meth c T locs cells slots) (hlk : meth.locks = false) (hx : p.tables.exec = Jvm.exec) {pc : Nat} {Ls : Array Slot} {z : Int32} {rest : List Value} (hret : meth.sig.returnType = some .int) (hd : decode c.code pc = .ok (.ireturn, 1)) (hc : cells ≤ k) (hs : slots ≤ n) (eT : T.heap = h) (hQ : Q (some (.int z)) h locs) :
    OwnGo p.tables e below (OwnEnd s Q k n) (T.setTop (mkF m pc Ls (.int z :: rest))) := by
  refine own_leaf X hlk (fun q => by rw [hret] at q; cases q) hc hs eT hQ fun fs hl => ?_
  have hm' : T.vm.method? m = some meth := X.method'
  have hn : narrow .int (.int z) = .int z := rfl
  show Steps p.tables e below (T.setTop { method := m, pc := pc, locals := Ls, stack := _ :: rest, locked := none }) _
  jvm_step X.here [X.here.top, hx, hd, hm', hret, hn]
  first | (intro acts; rw [hl _ acts rfl rfl rfl]) | rw [hl _ _ rfl rfl rfl]
  exact Steps.refl _
theorem own_retZ (X : Stand p l e R s m args below meth c T locs cells slots) (hlk : meth.locks = false) (hx : p.tables.exec = Jvm.exec) {pc : Nat} {Ls : Array Slot} {z : Int32} {rest : List Value} (hret : meth.sig.returnType = some .boolean) (hd : decode c.code pc = .ok (.ireturn, 1)) (hc : cells ≤ k) (hs : slots ≤ n) (eT : T.heap = h) (hQ : Q (some (.int (nar .boolean z))) h locs) :
    OwnGo p.tables e below (OwnEnd s Q k n) (T.setTop (mkF m pc Ls (.int z :: rest))) :=
  own_leaf X hlk (fun q => by rw [hret] at q; cases q) hc hs eT hQ fun fs hl => retN X hx (t := .boolean) hret (by simp) hd hl
theorem own_retJ (X : Stand p l e R s m args below meth c T locs cells slots) (hlk : meth.locks = false) (hx : p.tables.exec = Jvm.exec) {pc : Nat} {Ls : Array Slot} {z : Int64} (hret : meth.sig.returnType = some .long) (hd : decode c.code pc = .ok (.lreturn, 1)) (hc : cells ≤ k) (hs : slots ≤ n) (eT : T.heap = h) (hQ : Q (some (.long z)) h locs) :
    OwnGo p.tables e below (OwnEnd s Q k n) (T.setTop (mkF m pc Ls [.long z])) :=
  own_leaf X hlk (fun q => by rw [hret] at q; cases q) hc hs eT hQ fun fs hl => X.lreturnOut hx hret hd hl
theorem own_retV (X : Stand p l e R s m args below meth c T locs cells slots) (hlk : meth.locks = false) (hx : p.tables.exec = Jvm.exec) {pc : Nat} {Ls : Array Slot} (hret : meth.sig.returnType = none) (hd : decode c.code pc = .ok (.return_, 1)) (hc : cells ≤ k) (hs : slots ≤ n) (eT : T.heap = h) (hQ : Q none h locs) :
    OwnGo p.tables e below (OwnEnd s Q k n) (T.setTop (mkF m pc Ls [])) :=
  own_leaf X hlk (fun _ => rfl) hc hs eT hQ fun fs hl => X.returnOut hx hret hd hl
theorem own_retA (X : Stand p l e R s m args below meth c T locs cells slots) (hlk : meth.locks = false) (hx : p.tables.exec = Jvm.exec) {pc : Nat} {Ls : Array Slot} {w : Value} {rest : List Value} {t : FieldType} (hret : meth.sig.returnType = some t) (ht : t.isReference = true) (hw : w.isRef = true) (hd : decode c.code pc = .ok (.areturn, 1)) (hc : cells ≤ k) (hs : slots ≤ n) (eT : T.heap = h) (hQ : Q (some w) h locs) :
    OwnGo p.tables e below (OwnEnd s Q k n) (T.setTop (mkF m pc Ls (w :: rest))) :=
  own_leaf X hlk (fun q => by rw [hret] at q; cases q) hc hs eT hQ fun fs hl => retOut X hx hret (by cases t <;> first | (cases ht; done) | rfl) (Or.inr (Or.inr (Or.inr (Or.inr ⟨rfl, ht, hw⟩)))) hd hl
/-! own: int arrays, by a function of the place -/
def OwnIA (Z : State) (h : Heap) (a : Addr) (n : Nat) (f : Nat → Int32) : Prop := ∃ c : Cell, Arr Z h a c .int ∧ c.slots.size = n ∧ n < 2147483648 ∧ ∀ i, i < n → c.slots[i]? = some (.int (f i))
theorem OwnIA.lt {a : Addr} {n : Nat} {f : Nat → Int32} (F : OwnIA Z h a n f) : a < h.size := by obtain ⟨c, A, -⟩ := F; exact A.lt
theorem OwnIA.ext {h' : Heap} {a : Addr} {n : Nat} {f : Nat → Int32} (F : OwnIA Z h a n f) (E : Ext h h') : OwnIA Z h' a n f := by obtain ⟨c, A, r⟩ := F; exact ⟨c, A.ext E, r⟩
theorem OwnIA.other {h' : Heap} {a b : Addr} {n sl : Nat} {v : Value} {f : Nat → Int32} (F : OwnIA Z h b n f) (W : Wr h h' a sl v) (q : b ≠ a) : OwnIA Z h' b n f := by obtain ⟨c, A, r⟩ := F; exact ⟨c, A.other W q, r⟩
theorem OwnIA.keep {h' : Heap} {ws : List Addr} {a : Addr} {n : Nat} {f : Nat → Int32} (F : OwnIA Z h a n f) (K : Keep h h' ws) (q : a ∉ ws) : OwnIA Z h' a n f := by obtain ⟨c, A, r⟩ := F; exact ⟨c, ⟨K.2.1 a c A.1 q, A.2⟩, r⟩
theorem OwnIA.eqv {a : Addr} {n : Nat} {f f' : Nat → Int32} (F : OwnIA Z h a n f) (q : ∀ i, i < n → f i = f' i) : OwnIA Z h a n f' := by obtain ⟨c, A, r1, r2, r3⟩ := F; exact ⟨c, A, r1, r2, fun i hi => by rw [r3 i hi, q i hi]⟩
theorem own_clamp {j : Int32} {i : Nat} (hj : j.toInt = i) : j.toNatClampNeg = i := by simp only [Int32.toNatClampNeg]; omega
theorem own_inb {c : Cell} {j : Int32} {i n : Nat} (S : c.slots.size = n) (hj : j.toInt = i) (hi : i < n) : ¬ (j < 0 ∨ c.slots.size ≤ j.toNatClampNeg) := by
  rw [own_clamp hj, S]; simp only [Int32.lt_iff_toInt_lt, Int32.reduceToInt]; omega
theorem OwnIA.new {a : Addr} {k : ClassId} {z : Int32} {i : Nat} (A : Arr Z h a (newA k .int z) .int) (hz : z.toInt = i) : OwnIA Z h a i (fun _ => 0) := by
  have q := own_clamp hz
  have r := rng32 z
  exact ⟨_, A, by rw [sz_new]; exact q, by omega, fun j hj => by simp [newA, q, hj, defaultValue]⟩
theorem own_len (X : Stand p l e R s m args below meth c T locs cells slots) (hx : p.tables.exec = Jvm.exec) (hZ : Z.Warmed39 s.vm) (eT : T.heap = h) {a : Addr} {n : Nat} {f : Nat → Int32} (V : OwnIA Z h a n f) {g : JFrame} (hg : g.method = m) {rest : List Value} (hs : g.stack = .ref a :: rest) (hd : decode c.code g.pc = .ok (.arraylength, 1)) :
    ∀ target, Steps p.tables e below (T.setTop { g with pc := g.pc + 1, stack := .int (Int32.ofNat n) :: rest }) target → Steps p.tables e below (T.setTop g) target := by
  obtain ⟨cl, A, S, -⟩ := V
  subst S
  exact X.arraylength hx (by rw [eT]; exact A.1) (State.isArrayOf_alike hZ.alike A.2.1) hg hs hd
theorem own_iaload (X : Stand p l e R s m args below meth c T locs cells slots) (hx : p.tables.exec = Jvm.exec) (hZ : Z.Warmed39 s.vm) (eT : T.heap = h) {a : Addr} {n : Nat} {f : Nat → Int32} (V : OwnIA Z h a n f) {j : Int32} {i : Nat} (hj : j.toInt = i) (hi : i < n) {g : JFrame} (hg : g.method = m) {rest : List Value} (hs : g.stack = .int j :: .ref a :: rest) (hd : decode c.code g.pc = .ok (.iaload, 1)) :
    ∀ target, Steps p.tables e below (T.setTop { g with pc := g.pc + 1, stack := .int (f i) :: rest }) target → Steps p.tables e below (T.setTop g) target := by
  obtain ⟨cl, A, S, -, H⟩ := V
  exact X.iaload hx (by rw [eT]; exact A.1) (State.isArrayOf_alike hZ.alike A.2.1) A.2.2 (own_inb S hj hi) (by rw [own_clamp hj]; exact H i hi) hg hs hd
theorem own_iastore (X : Stand p l e R s m args below meth c T locs cells slots) (hx : p.tables.exec = Jvm.exec) (hZ : Z.Warmed39 s.vm) (eT : T.heap = h) {a : Addr} {n : Nat} {f : Nat → Int32} (V : OwnIA Z h a n f) {j x : Int32} {i : Nat} (hj : j.toInt = i) (hi : i < n) {g : JFrame} (hg : g.method = m) {rest : List Value} (hs : g.stack = .int x :: .int j :: .ref a :: rest) (hd : decode c.code g.pc = .ok (.iastore, 1)) :
    ∃ T' h', Stand p l e R s m args below meth c T' (locs ++ [⟨a, i⟩]) cells slots ∧ T'.heap = h' ∧ Wr h h' a i (.int x) ∧ OwnIA Z h' a n (fun k => if k = i then x else f k) ∧ ∀ target, Steps p.tables e below (T'.setTop { g with pc := g.pc + 1, stack := rest }) target → Steps p.tables e below (T.setTop g) target := by
  obtain ⟨cl, A, S, N, H⟩ := V
  obtain ⟨T', h', X', e', W, st⟩ := stI X hx hZ eT A (own_inb S hj hi) hg hs hd
  rw [own_clamp hj] at X' W
  refine ⟨T', h', X', e', W, ⟨_, A.same W, by rw [sz_set]; exact S, N, fun k hk => ?_⟩, st⟩
  by_cases q : k = i
  · subst q; simp [Cell.setSlot, S, hk]
  · simp only [Cell.setSlot, if_neg q]; rw [Array.getElem?_setIfInBounds_ne (Ne.symm q)]; exact H k hk
theorem own_newI (X : Stand p l e R s m args below meth c T locs cells slots) (hx : p.tables.exec = Jvm.exec) (hZ : Z.Warmed39 s.vm) (w : (Cond.arrayClass .int).before a0 Z = true) (eT : T.heap = h) {g : JFrame} (hg : g.method = m) (hd : decode c.code g.pc = .ok (.newarray .int, 2)) {z : Int32} {i : Nat} {rest : List Value} (hs : g.stack = .int z :: rest)
    (hz : z.toInt = i) {cap : Nat} (hcap : i ≤ cap) (hb : cap * 8 ≤ 536870912) (hc : cells + 1 ≤ R.cells) (hl : slots + cap ≤ R.slots) :
    ∃ T' h' a, Stand p l e R s m args below meth c T' locs (cells + 1) (slots + cap) ∧ T'.heap = h' ∧ Ext h h' ∧ a = h.size ∧ OwnIA Z h' a i (fun _ => 0) ∧ ∀ target, Steps p.tables e below (T'.setTop { g with pc := g.pc + 2, stack := .ref a :: rest }) target → Steps p.tables e below (T.setTop g) target := by
  have q := own_clamp hz
  obtain ⟨T', h', cA, X', e', E, A, st⟩ := newP X hx hZ (aty := .int) w eT hg hd hs (by simp only [Int32.lt_iff_toInt_lt, Int32.reduceToInt]; omega) (cap := cap) (by omega) hb hc hl
  exact ⟨T', h', _, X', e', E, rfl, OwnIA.new A hz, st⟩
end OwnLeaf
/-! own: branches, by the ints' own numbers -/
theorem own_blt {x y : Int32} {a b : Int} (hx : x.toInt = a) (hy : y.toInt = b) (h : a < b) : if_icmp.holds .lt x y = true ∧ if_icmp.holds .ge x y = false ∧ if_icmp.holds .gt y x = true ∧ if_icmp.holds .le y x = false := tlt (by rw [Int32.lt_iff_toInt_lt]; omega)
theorem own_bnlt {x y : Int32} {a b : Int} (hx : x.toInt = a) (hy : y.toInt = b) (h : ¬ a < b) : if_icmp.holds .lt x y = false ∧ if_icmp.holds .ge x y = true ∧ if_icmp.holds .gt y x = false ∧ if_icmp.holds .le y x = true := flt (by rw [Int32.lt_iff_toInt_lt]; omega)
theorem own_beq {x y : Int32} {a b : Int} (hx : x.toInt = a) (hy : y.toInt = b) (h : a = b) : if_icmp.holds .eq x y = true ∧ if_icmp.holds .ne x y = false := teq (Int32.toInt_inj.mp (by omega))
theorem own_bneq {x y : Int32} {a b : Int} (hx : x.toInt = a) (hy : y.toInt = b) (h : ¬ a = b) : if_icmp.holds .eq x y = false ∧ if_icmp.holds .ne x y = true := feq fun q => h (by rw [← hx, ← hy, q])
theorem own_Llt {x y : Int64} {a b : Int} (hx : x.toInt = a) (hy : y.toInt = b) (h : a < b) : ifCond.holds .lt (lcmpW x y) = true ∧ ifCond.holds .ge (lcmpW x y) = false := by
  have q : x < y := by rw [Int64.lt_iff_toInt_lt]; omega
  rw [if0, if0]; exact ⟨(tlt ((lw_lt x y).mpr q)).1, (tlt ((lw_lt x y).mpr q)).2.1⟩
theorem own_Lnlt {x y : Int64} {a b : Int} (hx : x.toInt = a) (hy : y.toInt = b) (h : ¬ a < b) : ifCond.holds .lt (lcmpW x y) = false ∧ ifCond.holds .ge (lcmpW x y) = true := by
  have q : ¬ x < y := by rw [Int64.lt_iff_toInt_lt]; omega
  rw [if0, if0]; exact ⟨(flt (fun r => q ((lw_lt x y).mp r))).1, (flt (fun r => q ((lw_lt x y).mp r))).2.1⟩
theorem own_Lgt {x y : Int64} {a b : Int} (hx : x.toInt = a) (hy : y.toInt = b) (h : b < a) : ifCond.holds .gt (lcmpW x y) = true ∧ ifCond.holds .le (lcmpW x y) = false := by
  have q : y < x := by rw [Int64.lt_iff_toInt_lt]; omega
  rw [if0, if0]; exact ⟨(tlt ((lw_gt x y).mpr q)).2.2.1, (tlt ((lw_gt x y).mpr q)).2.2.2⟩
theorem own_Lngt {x y : Int64} {a b : Int} (hx : x.toInt = a) (hy : y.toInt = b) (h : ¬ b < a) : ifCond.holds .gt (lcmpW x y) = false ∧ ifCond.holds .le (lcmpW x y) = true := by
  have q : ¬ y < x := by rw [Int64.lt_iff_toInt_lt]; omega
  rw [if0, if0]; exact ⟨(flt (fun r => q ((lw_gt x y).mp r))).2.2.1, (flt (fun r => q ((lw_gt x y).mp r))).2.2.2⟩
theorem own_Leq {x y : Int64} {a b : Int} (hx : x.toInt = a) (hy : y.toInt = b) (h : a = b) : ifCond.holds .eq (lcmpW x y) = true ∧ ifCond.holds .ne (lcmpW x y) = false := by
  have q : x = y := Int64.toInt_inj.mp (by omega)
  rw [if0, if0]; exact teq ((lw_eq x y).mpr q)
theorem own_Lneq {x y : Int64} {a b : Int} (hx : x.toInt = a) (hy : y.toInt = b) (h : ¬ a = b) : ifCond.holds .eq (lcmpW x y) = false ∧ ifCond.holds .ne (lcmpW x y) = true := by
  have q : ¬ x = y := fun r => h (by rw [← hx, ← hy, r])
  rw [if0, if0]; exact feq fun r => q ((lw_eq x y).mp r)
theorem own_ofNat {i : Nat} (h : i < 2147483648) : (Int32.ofNat i).toInt = (i : Int) := Int32.toInt_ofNat_small h
theorem own_ofNatS (i : Nat) : Int32.ofNat i + 1 = Int32.ofNat (i + 1) := (Int32.ofNat_add i 1).symm
theorem own_fieldInt {args : Array Value} {s : State} {t : Term} {C n d : String} {k : Int32} {w : Addr} (ht : t.eval args s none [] s = some (.ref w)) (h : (Jvm.Cond.eq (.field t C n d) (.int k)).value args s none s [] = some true) : Fld s s.heap w C n d (.int k) := by
  apply Fld.start
  obtain ⟨x, y, hx, hy, -, k2⟩ := cmp_v (Or.inl h)
  have hy' : y = .int k := Option.some.inj (hy.symm.trans (Term.int_eval k))
  subst hy'
  obtain ⟨z, rfl⟩ : ∃ z, x = .int z := k2
  have q := gotT (Cond.eq_ints hx hy) h
  subst q
  rw [← fld_at ht]; exact hx
end Jvm.RoadKit
namespace Jvm.Pilot.@@N@@
open Jvm Jvm.ClassFile Sem Op Lib Jvm.Free Jvm.Stand Jvm.LawKit Jvm.RoadKit Bundle Jvm.Pilot.@@N@@.Jvm.D
/-- own: the name start signs, as one chain of bounds -/
theorem own_b1 {i a k : Int} (h : i ≤ a) (q : a < k) : i < k := Int.lt_of_le_of_lt h q
theorem own_b2 {i a k : Int} (h : a ≤ i) (q : k ≤ a) : ¬ i < k := Int.not_lt.mpr (Int.le_trans q h)
theorem own_b3 {i a k : Int} (h : a ≤ i) (q : k < a) : k < i := Int.lt_of_lt_of_le q h
theorem own_b4 {i a k : Int} (h : i ≤ a) (q : a ≤ k) : ¬ k < i := Int.not_lt.mpr (Int.le_trans h q)
theorem own_b5 {i a k : Int} (h : a ≤ i) (q : k < a) : ¬ i = k := fun e => Int.ne_of_gt (Int.lt_of_lt_of_le q h) e
theorem own_b6 {i a k : Int} (h : i ≤ a) (q : a < k) : ¬ i = k := fun e => Int.ne_of_lt (Int.lt_of_le_of_lt h q) e
def own_ns (i : Int) : Bool := if i ≤ 64 then false else if i ≤ 90 then true else if i ≤ 94 then false else if i ≤ 95 then true else if i ≤ 96 then false else if i ≤ 122 then true else if i ≤ 191 then false else if i ≤ 214 then true else if i ≤ 215 then false else if i ≤ 246 then true else if i ≤ 247 then false else if i ≤ 767 then true else if i ≤ 879 then false else if i ≤ 893 then true else if i ≤ 894 then false else if i ≤ 8191 then true else if i ≤ 8203 then false else if i ≤ 8205 then true else if i ≤ 8303 then false else if i ≤ 8591 then true else if i ≤ 11263 then false else if i ≤ 12271 then true else if i ≤ 12288 then false else if i ≤ 55295 then true else if i ≤ 63743 then false else if i ≤ 64975 then true else if i ≤ 65007 then false else if i ≤ 65533 then true else if i ≤ 65535 then false else if i ≤ 983039 then true else false
def own_nc (c : Int32) : Int32 := if own_ns c.toInt = true then 1 else 0
def own_gp (c : Int32) : Int32 := if own_ns c.toInt = true then 0 else 1
theorem own_nc1 {c : Int32} (h : own_ns c.toInt = true) : own_nc c = 1 := if_pos h
theorem own_nc0 {c : Int32} (h : own_ns c.toInt = false) : own_nc c = 0 := if_neg (by rw [h]; decide)
theorem own_gp0 {c : Int32} (h : own_ns c.toInt = true) : own_gp c = 0 := if_pos h
theorem own_gp1 {c : Int32} (h : own_ns c.toInt = false) : own_gp c = 1 := if_neg (by rw [h]; decide)
theorem own_gpn {c : Int32} (h : (own_gp c).toInt = 0) : own_nc c = 1 := by
  cases q : own_ns c.toInt
  · rw [own_gp1 q] at h; exact absurd h (by decide)
  · exact own_nc1 q
theorem own_gpp {c : Int32} (h : ¬ (own_gp c).toInt = 0) : own_nc c = 0 := by
  cases q : own_ns c.toInt
  · exact own_nc0 q
  · rw [own_gp0 q] at h; exact absurd (by decide) h
theorem own_in0 {i : Int} (h1 : 65 ≤ i) (h2 : i ≤ 90) : own_ns i = true := by
  unfold own_ns
  rw [if_neg (show ¬ i ≤ 64 by omega)]
  rw [if_pos (show i ≤ 90 by omega)]
theorem own_in1 {i : Int} (h1 : 95 ≤ i) (h2 : i ≤ 95) : own_ns i = true := by
  unfold own_ns
  rw [if_neg (show ¬ i ≤ 64 by omega)]
  rw [if_neg (show ¬ i ≤ 90 by omega)]
  rw [if_neg (show ¬ i ≤ 94 by omega)]
  rw [if_pos (show i ≤ 95 by omega)]
theorem own_in2 {i : Int} (h1 : 97 ≤ i) (h2 : i ≤ 122) : own_ns i = true := by
  unfold own_ns
  rw [if_neg (show ¬ i ≤ 64 by omega)]
  rw [if_neg (show ¬ i ≤ 90 by omega)]
  rw [if_neg (show ¬ i ≤ 94 by omega)]
  rw [if_neg (show ¬ i ≤ 95 by omega)]
  rw [if_neg (show ¬ i ≤ 96 by omega)]
  rw [if_pos (show i ≤ 122 by omega)]
theorem own_in3 {i : Int} (h1 : 192 ≤ i) (h2 : i ≤ 214) : own_ns i = true := by
  unfold own_ns
  rw [if_neg (show ¬ i ≤ 64 by omega)]
  rw [if_neg (show ¬ i ≤ 90 by omega)]
  rw [if_neg (show ¬ i ≤ 94 by omega)]
  rw [if_neg (show ¬ i ≤ 95 by omega)]
  rw [if_neg (show ¬ i ≤ 96 by omega)]
  rw [if_neg (show ¬ i ≤ 122 by omega)]
  rw [if_neg (show ¬ i ≤ 191 by omega)]
  rw [if_pos (show i ≤ 214 by omega)]
theorem own_in4 {i : Int} (h1 : 216 ≤ i) (h2 : i ≤ 246) : own_ns i = true := by
  unfold own_ns
  rw [if_neg (show ¬ i ≤ 64 by omega)]
  rw [if_neg (show ¬ i ≤ 90 by omega)]
  rw [if_neg (show ¬ i ≤ 94 by omega)]
  rw [if_neg (show ¬ i ≤ 95 by omega)]
  rw [if_neg (show ¬ i ≤ 96 by omega)]
  rw [if_neg (show ¬ i ≤ 122 by omega)]
  rw [if_neg (show ¬ i ≤ 191 by omega)]
  rw [if_neg (show ¬ i ≤ 214 by omega)]
  rw [if_neg (show ¬ i ≤ 215 by omega)]
  rw [if_pos (show i ≤ 246 by omega)]
theorem own_in5 {i : Int} (h1 : 248 ≤ i) (h2 : i ≤ 767) : own_ns i = true := by
  unfold own_ns
  rw [if_neg (show ¬ i ≤ 64 by omega)]
  rw [if_neg (show ¬ i ≤ 90 by omega)]
  rw [if_neg (show ¬ i ≤ 94 by omega)]
  rw [if_neg (show ¬ i ≤ 95 by omega)]
  rw [if_neg (show ¬ i ≤ 96 by omega)]
  rw [if_neg (show ¬ i ≤ 122 by omega)]
  rw [if_neg (show ¬ i ≤ 191 by omega)]
  rw [if_neg (show ¬ i ≤ 214 by omega)]
  rw [if_neg (show ¬ i ≤ 215 by omega)]
  rw [if_neg (show ¬ i ≤ 246 by omega)]
  rw [if_neg (show ¬ i ≤ 247 by omega)]
  rw [if_pos (show i ≤ 767 by omega)]
theorem own_in6 {i : Int} (h1 : 880 ≤ i) (h2 : i ≤ 893) : own_ns i = true := by
  unfold own_ns
  rw [if_neg (show ¬ i ≤ 64 by omega)]
  rw [if_neg (show ¬ i ≤ 90 by omega)]
  rw [if_neg (show ¬ i ≤ 94 by omega)]
  rw [if_neg (show ¬ i ≤ 95 by omega)]
  rw [if_neg (show ¬ i ≤ 96 by omega)]
  rw [if_neg (show ¬ i ≤ 122 by omega)]
  rw [if_neg (show ¬ i ≤ 191 by omega)]
  rw [if_neg (show ¬ i ≤ 214 by omega)]
  rw [if_neg (show ¬ i ≤ 215 by omega)]
  rw [if_neg (show ¬ i ≤ 246 by omega)]
  rw [if_neg (show ¬ i ≤ 247 by omega)]
  rw [if_neg (show ¬ i ≤ 767 by omega)]
  rw [if_neg (show ¬ i ≤ 879 by omega)]
  rw [if_pos (show i ≤ 893 by omega)]
theorem own_in7 {i : Int} (h1 : 895 ≤ i) (h2 : i ≤ 8191) : own_ns i = true := by
  unfold own_ns
  rw [if_neg (show ¬ i ≤ 64 by omega)]
  rw [if_neg (show ¬ i ≤ 90 by omega)]
  rw [if_neg (show ¬ i ≤ 94 by omega)]
  rw [if_neg (show ¬ i ≤ 95 by omega)]
  rw [if_neg (show ¬ i ≤ 96 by omega)]
  rw [if_neg (show ¬ i ≤ 122 by omega)]
  rw [if_neg (show ¬ i ≤ 191 by omega)]
  rw [if_neg (show ¬ i ≤ 214 by omega)]
  rw [if_neg (show ¬ i ≤ 215 by omega)]
  rw [if_neg (show ¬ i ≤ 246 by omega)]
  rw [if_neg (show ¬ i ≤ 247 by omega)]
  rw [if_neg (show ¬ i ≤ 767 by omega)]
  rw [if_neg (show ¬ i ≤ 879 by omega)]
  rw [if_neg (show ¬ i ≤ 893 by omega)]
  rw [if_neg (show ¬ i ≤ 894 by omega)]
  rw [if_pos (show i ≤ 8191 by omega)]
theorem own_in8 {i : Int} (h1 : 8204 ≤ i) (h2 : i ≤ 8205) : own_ns i = true := by
  unfold own_ns
  rw [if_neg (show ¬ i ≤ 64 by omega)]
  rw [if_neg (show ¬ i ≤ 90 by omega)]
  rw [if_neg (show ¬ i ≤ 94 by omega)]
  rw [if_neg (show ¬ i ≤ 95 by omega)]
  rw [if_neg (show ¬ i ≤ 96 by omega)]
  rw [if_neg (show ¬ i ≤ 122 by omega)]
  rw [if_neg (show ¬ i ≤ 191 by omega)]
  rw [if_neg (show ¬ i ≤ 214 by omega)]
  rw [if_neg (show ¬ i ≤ 215 by omega)]
  rw [if_neg (show ¬ i ≤ 246 by omega)]
  rw [if_neg (show ¬ i ≤ 247 by omega)]
  rw [if_neg (show ¬ i ≤ 767 by omega)]
  rw [if_neg (show ¬ i ≤ 879 by omega)]
  rw [if_neg (show ¬ i ≤ 893 by omega)]
  rw [if_neg (show ¬ i ≤ 894 by omega)]
  rw [if_neg (show ¬ i ≤ 8191 by omega)]
  rw [if_neg (show ¬ i ≤ 8203 by omega)]
  rw [if_pos (show i ≤ 8205 by omega)]
theorem own_in9 {i : Int} (h1 : 8304 ≤ i) (h2 : i ≤ 8591) : own_ns i = true := by
  unfold own_ns
  rw [if_neg (show ¬ i ≤ 64 by omega)]
  rw [if_neg (show ¬ i ≤ 90 by omega)]
  rw [if_neg (show ¬ i ≤ 94 by omega)]
  rw [if_neg (show ¬ i ≤ 95 by omega)]
  rw [if_neg (show ¬ i ≤ 96 by omega)]
  rw [if_neg (show ¬ i ≤ 122 by omega)]
  rw [if_neg (show ¬ i ≤ 191 by omega)]
  rw [if_neg (show ¬ i ≤ 214 by omega)]
  rw [if_neg (show ¬ i ≤ 215 by omega)]
  rw [if_neg (show ¬ i ≤ 246 by omega)]
  rw [if_neg (show ¬ i ≤ 247 by omega)]
  rw [if_neg (show ¬ i ≤ 767 by omega)]
  rw [if_neg (show ¬ i ≤ 879 by omega)]
  rw [if_neg (show ¬ i ≤ 893 by omega)]
  rw [if_neg (show ¬ i ≤ 894 by omega)]
  rw [if_neg (show ¬ i ≤ 8191 by omega)]
  rw [if_neg (show ¬ i ≤ 8203 by omega)]
  rw [if_neg (show ¬ i ≤ 8205 by omega)]
  rw [if_neg (show ¬ i ≤ 8303 by omega)]
  rw [if_pos (show i ≤ 8591 by omega)]
theorem own_in10 {i : Int} (h1 : 11264 ≤ i) (h2 : i ≤ 12271) : own_ns i = true := by
  unfold own_ns
  rw [if_neg (show ¬ i ≤ 64 by omega)]
  rw [if_neg (show ¬ i ≤ 90 by omega)]
  rw [if_neg (show ¬ i ≤ 94 by omega)]
  rw [if_neg (show ¬ i ≤ 95 by omega)]
  rw [if_neg (show ¬ i ≤ 96 by omega)]
  rw [if_neg (show ¬ i ≤ 122 by omega)]
  rw [if_neg (show ¬ i ≤ 191 by omega)]
  rw [if_neg (show ¬ i ≤ 214 by omega)]
  rw [if_neg (show ¬ i ≤ 215 by omega)]
  rw [if_neg (show ¬ i ≤ 246 by omega)]
  rw [if_neg (show ¬ i ≤ 247 by omega)]
  rw [if_neg (show ¬ i ≤ 767 by omega)]
  rw [if_neg (show ¬ i ≤ 879 by omega)]
  rw [if_neg (show ¬ i ≤ 893 by omega)]
  rw [if_neg (show ¬ i ≤ 894 by omega)]
  rw [if_neg (show ¬ i ≤ 8191 by omega)]
  rw [if_neg (show ¬ i ≤ 8203 by omega)]
  rw [if_neg (show ¬ i ≤ 8205 by omega)]
  rw [if_neg (show ¬ i ≤ 8303 by omega)]
  rw [if_neg (show ¬ i ≤ 8591 by omega)]
  rw [if_neg (show ¬ i ≤ 11263 by omega)]
  rw [if_pos (show i ≤ 12271 by omega)]
theorem own_in11 {i : Int} (h1 : 12289 ≤ i) (h2 : i ≤ 55295) : own_ns i = true := by
  unfold own_ns
  rw [if_neg (show ¬ i ≤ 64 by omega)]
  rw [if_neg (show ¬ i ≤ 90 by omega)]
  rw [if_neg (show ¬ i ≤ 94 by omega)]
  rw [if_neg (show ¬ i ≤ 95 by omega)]
  rw [if_neg (show ¬ i ≤ 96 by omega)]
  rw [if_neg (show ¬ i ≤ 122 by omega)]
  rw [if_neg (show ¬ i ≤ 191 by omega)]
  rw [if_neg (show ¬ i ≤ 214 by omega)]
  rw [if_neg (show ¬ i ≤ 215 by omega)]
  rw [if_neg (show ¬ i ≤ 246 by omega)]
  rw [if_neg (show ¬ i ≤ 247 by omega)]
  rw [if_neg (show ¬ i ≤ 767 by omega)]
  rw [if_neg (show ¬ i ≤ 879 by omega)]
  rw [if_neg (show ¬ i ≤ 893 by omega)]
  rw [if_neg (show ¬ i ≤ 894 by omega)]
  rw [if_neg (show ¬ i ≤ 8191 by omega)]
  rw [if_neg (show ¬ i ≤ 8203 by omega)]
  rw [if_neg (show ¬ i ≤ 8205 by omega)]
  rw [if_neg (show ¬ i ≤ 8303 by omega)]
  rw [if_neg (show ¬ i ≤ 8591 by omega)]
  rw [if_neg (show ¬ i ≤ 11263 by omega)]
  rw [if_neg (show ¬ i ≤ 12271 by omega)]
  rw [if_neg (show ¬ i ≤ 12288 by omega)]
  rw [if_pos (show i ≤ 55295 by omega)]
theorem own_in12 {i : Int} (h1 : 63744 ≤ i) (h2 : i ≤ 64975) : own_ns i = true := by
  unfold own_ns
  rw [if_neg (show ¬ i ≤ 64 by omega)]
  rw [if_neg (show ¬ i ≤ 90 by omega)]
  rw [if_neg (show ¬ i ≤ 94 by omega)]
  rw [if_neg (show ¬ i ≤ 95 by omega)]
  rw [if_neg (show ¬ i ≤ 96 by omega)]
  rw [if_neg (show ¬ i ≤ 122 by omega)]
  rw [if_neg (show ¬ i ≤ 191 by omega)]
  rw [if_neg (show ¬ i ≤ 214 by omega)]
  rw [if_neg (show ¬ i ≤ 215 by omega)]
  rw [if_neg (show ¬ i ≤ 246 by omega)]
  rw [if_neg (show ¬ i ≤ 247 by omega)]
  rw [if_neg (show ¬ i ≤ 767 by omega)]
  rw [if_neg (show ¬ i ≤ 879 by omega)]
  rw [if_neg (show ¬ i ≤ 893 by omega)]
  rw [if_neg (show ¬ i ≤ 894 by omega)]
  rw [if_neg (show ¬ i ≤ 8191 by omega)]
  rw [if_neg (show ¬ i ≤ 8203 by omega)]
  rw [if_neg (show ¬ i ≤ 8205 by omega)]
  rw [if_neg (show ¬ i ≤ 8303 by omega)]
  rw [if_neg (show ¬ i ≤ 8591 by omega)]
  rw [if_neg (show ¬ i ≤ 11263 by omega)]
  rw [if_neg (show ¬ i ≤ 12271 by omega)]
  rw [if_neg (show ¬ i ≤ 12288 by omega)]
  rw [if_neg (show ¬ i ≤ 55295 by omega)]
  rw [if_neg (show ¬ i ≤ 63743 by omega)]
  rw [if_pos (show i ≤ 64975 by omega)]
theorem own_in13 {i : Int} (h1 : 65008 ≤ i) (h2 : i ≤ 65533) : own_ns i = true := by
  unfold own_ns
  rw [if_neg (show ¬ i ≤ 64 by omega)]
  rw [if_neg (show ¬ i ≤ 90 by omega)]
  rw [if_neg (show ¬ i ≤ 94 by omega)]
  rw [if_neg (show ¬ i ≤ 95 by omega)]
  rw [if_neg (show ¬ i ≤ 96 by omega)]
  rw [if_neg (show ¬ i ≤ 122 by omega)]
  rw [if_neg (show ¬ i ≤ 191 by omega)]
  rw [if_neg (show ¬ i ≤ 214 by omega)]
  rw [if_neg (show ¬ i ≤ 215 by omega)]
  rw [if_neg (show ¬ i ≤ 246 by omega)]
  rw [if_neg (show ¬ i ≤ 247 by omega)]
  rw [if_neg (show ¬ i ≤ 767 by omega)]
  rw [if_neg (show ¬ i ≤ 879 by omega)]
  rw [if_neg (show ¬ i ≤ 893 by omega)]
  rw [if_neg (show ¬ i ≤ 894 by omega)]
  rw [if_neg (show ¬ i ≤ 8191 by omega)]
  rw [if_neg (show ¬ i ≤ 8203 by omega)]
  rw [if_neg (show ¬ i ≤ 8205 by omega)]
  rw [if_neg (show ¬ i ≤ 8303 by omega)]
  rw [if_neg (show ¬ i ≤ 8591 by omega)]
  rw [if_neg (show ¬ i ≤ 11263 by omega)]
  rw [if_neg (show ¬ i ≤ 12271 by omega)]
  rw [if_neg (show ¬ i ≤ 12288 by omega)]
  rw [if_neg (show ¬ i ≤ 55295 by omega)]
  rw [if_neg (show ¬ i ≤ 63743 by omega)]
  rw [if_neg (show ¬ i ≤ 64975 by omega)]
  rw [if_neg (show ¬ i ≤ 65007 by omega)]
  rw [if_pos (show i ≤ 65533 by omega)]
theorem own_in14 {i : Int} (h1 : 65536 ≤ i) (h2 : i ≤ 983039) : own_ns i = true := by
  unfold own_ns
  rw [if_neg (show ¬ i ≤ 64 by omega)]
  rw [if_neg (show ¬ i ≤ 90 by omega)]
  rw [if_neg (show ¬ i ≤ 94 by omega)]
  rw [if_neg (show ¬ i ≤ 95 by omega)]
  rw [if_neg (show ¬ i ≤ 96 by omega)]
  rw [if_neg (show ¬ i ≤ 122 by omega)]
  rw [if_neg (show ¬ i ≤ 191 by omega)]
  rw [if_neg (show ¬ i ≤ 214 by omega)]
  rw [if_neg (show ¬ i ≤ 215 by omega)]
  rw [if_neg (show ¬ i ≤ 246 by omega)]
  rw [if_neg (show ¬ i ≤ 247 by omega)]
  rw [if_neg (show ¬ i ≤ 767 by omega)]
  rw [if_neg (show ¬ i ≤ 879 by omega)]
  rw [if_neg (show ¬ i ≤ 893 by omega)]
  rw [if_neg (show ¬ i ≤ 894 by omega)]
  rw [if_neg (show ¬ i ≤ 8191 by omega)]
  rw [if_neg (show ¬ i ≤ 8203 by omega)]
  rw [if_neg (show ¬ i ≤ 8205 by omega)]
  rw [if_neg (show ¬ i ≤ 8303 by omega)]
  rw [if_neg (show ¬ i ≤ 8591 by omega)]
  rw [if_neg (show ¬ i ≤ 11263 by omega)]
  rw [if_neg (show ¬ i ≤ 12271 by omega)]
  rw [if_neg (show ¬ i ≤ 12288 by omega)]
  rw [if_neg (show ¬ i ≤ 55295 by omega)]
  rw [if_neg (show ¬ i ≤ 63743 by omega)]
  rw [if_neg (show ¬ i ≤ 64975 by omega)]
  rw [if_neg (show ¬ i ≤ 65007 by omega)]
  rw [if_neg (show ¬ i ≤ 65533 by omega)]
  rw [if_neg (show ¬ i ≤ 65535 by omega)]
  rw [if_pos (show i ≤ 983039 by omega)]
theorem own_out0 {i : Int} (h2 : i ≤ 64) : own_ns i = false := by
  unfold own_ns

  rw [if_pos (show i ≤ 64 by omega)]
theorem own_out1 {i : Int} (h1 : 91 ≤ i) (h2 : i ≤ 94) : own_ns i = false := by
  unfold own_ns
  rw [if_neg (show ¬ i ≤ 64 by omega)]
  rw [if_neg (show ¬ i ≤ 90 by omega)]
  rw [if_pos (show i ≤ 94 by omega)]
theorem own_out2 {i : Int} (h1 : 96 ≤ i) (h2 : i ≤ 96) : own_ns i = false := by
  unfold own_ns
  rw [if_neg (show ¬ i ≤ 64 by omega)]
  rw [if_neg (show ¬ i ≤ 90 by omega)]
  rw [if_neg (show ¬ i ≤ 94 by omega)]
  rw [if_neg (show ¬ i ≤ 95 by omega)]
  rw [if_pos (show i ≤ 96 by omega)]
theorem own_out3 {i : Int} (h1 : 123 ≤ i) (h2 : i ≤ 191) : own_ns i = false := by
  unfold own_ns
  rw [if_neg (show ¬ i ≤ 64 by omega)]
  rw [if_neg (show ¬ i ≤ 90 by omega)]
  rw [if_neg (show ¬ i ≤ 94 by omega)]
  rw [if_neg (show ¬ i ≤ 95 by omega)]
  rw [if_neg (show ¬ i ≤ 96 by omega)]
  rw [if_neg (show ¬ i ≤ 122 by omega)]
  rw [if_pos (show i ≤ 191 by omega)]
theorem own_out4 {i : Int} (h1 : 215 ≤ i) (h2 : i ≤ 215) : own_ns i = false := by
  unfold own_ns
  rw [if_neg (show ¬ i ≤ 64 by omega)]
  rw [if_neg (show ¬ i ≤ 90 by omega)]
  rw [if_neg (show ¬ i ≤ 94 by omega)]
  rw [if_neg (show ¬ i ≤ 95 by omega)]
  rw [if_neg (show ¬ i ≤ 96 by omega)]
  rw [if_neg (show ¬ i ≤ 122 by omega)]
  rw [if_neg (show ¬ i ≤ 191 by omega)]
  rw [if_neg (show ¬ i ≤ 214 by omega)]
  rw [if_pos (show i ≤ 215 by omega)]
theorem own_out5 {i : Int} (h1 : 247 ≤ i) (h2 : i ≤ 247) : own_ns i = false := by
  unfold own_ns
  rw [if_neg (show ¬ i ≤ 64 by omega)]
  rw [if_neg (show ¬ i ≤ 90 by omega)]
  rw [if_neg (show ¬ i ≤ 94 by omega)]
  rw [if_neg (show ¬ i ≤ 95 by omega)]
  rw [if_neg (show ¬ i ≤ 96 by omega)]
  rw [if_neg (show ¬ i ≤ 122 by omega)]
  rw [if_neg (show ¬ i ≤ 191 by omega)]
  rw [if_neg (show ¬ i ≤ 214 by omega)]
  rw [if_neg (show ¬ i ≤ 215 by omega)]
  rw [if_neg (show ¬ i ≤ 246 by omega)]
  rw [if_pos (show i ≤ 247 by omega)]
theorem own_out6 {i : Int} (h1 : 768 ≤ i) (h2 : i ≤ 879) : own_ns i = false := by
  unfold own_ns
  rw [if_neg (show ¬ i ≤ 64 by omega)]
  rw [if_neg (show ¬ i ≤ 90 by omega)]
  rw [if_neg (show ¬ i ≤ 94 by omega)]
  rw [if_neg (show ¬ i ≤ 95 by omega)]
  rw [if_neg (show ¬ i ≤ 96 by omega)]
  rw [if_neg (show ¬ i ≤ 122 by omega)]
  rw [if_neg (show ¬ i ≤ 191 by omega)]
  rw [if_neg (show ¬ i ≤ 214 by omega)]
  rw [if_neg (show ¬ i ≤ 215 by omega)]
  rw [if_neg (show ¬ i ≤ 246 by omega)]
  rw [if_neg (show ¬ i ≤ 247 by omega)]
  rw [if_neg (show ¬ i ≤ 767 by omega)]
  rw [if_pos (show i ≤ 879 by omega)]
theorem own_out7 {i : Int} (h1 : 894 ≤ i) (h2 : i ≤ 894) : own_ns i = false := by
  unfold own_ns
  rw [if_neg (show ¬ i ≤ 64 by omega)]
  rw [if_neg (show ¬ i ≤ 90 by omega)]
  rw [if_neg (show ¬ i ≤ 94 by omega)]
  rw [if_neg (show ¬ i ≤ 95 by omega)]
  rw [if_neg (show ¬ i ≤ 96 by omega)]
  rw [if_neg (show ¬ i ≤ 122 by omega)]
  rw [if_neg (show ¬ i ≤ 191 by omega)]
  rw [if_neg (show ¬ i ≤ 214 by omega)]
  rw [if_neg (show ¬ i ≤ 215 by omega)]
  rw [if_neg (show ¬ i ≤ 246 by omega)]
  rw [if_neg (show ¬ i ≤ 247 by omega)]
  rw [if_neg (show ¬ i ≤ 767 by omega)]
  rw [if_neg (show ¬ i ≤ 879 by omega)]
  rw [if_neg (show ¬ i ≤ 893 by omega)]
  rw [if_pos (show i ≤ 894 by omega)]
theorem own_out8 {i : Int} (h1 : 8192 ≤ i) (h2 : i ≤ 8203) : own_ns i = false := by
  unfold own_ns
  rw [if_neg (show ¬ i ≤ 64 by omega)]
  rw [if_neg (show ¬ i ≤ 90 by omega)]
  rw [if_neg (show ¬ i ≤ 94 by omega)]
  rw [if_neg (show ¬ i ≤ 95 by omega)]
  rw [if_neg (show ¬ i ≤ 96 by omega)]
  rw [if_neg (show ¬ i ≤ 122 by omega)]
  rw [if_neg (show ¬ i ≤ 191 by omega)]
  rw [if_neg (show ¬ i ≤ 214 by omega)]
  rw [if_neg (show ¬ i ≤ 215 by omega)]
  rw [if_neg (show ¬ i ≤ 246 by omega)]
  rw [if_neg (show ¬ i ≤ 247 by omega)]
  rw [if_neg (show ¬ i ≤ 767 by omega)]
  rw [if_neg (show ¬ i ≤ 879 by omega)]
  rw [if_neg (show ¬ i ≤ 893 by omega)]
  rw [if_neg (show ¬ i ≤ 894 by omega)]
  rw [if_neg (show ¬ i ≤ 8191 by omega)]
  rw [if_pos (show i ≤ 8203 by omega)]
theorem own_out9 {i : Int} (h1 : 8206 ≤ i) (h2 : i ≤ 8303) : own_ns i = false := by
  unfold own_ns
  rw [if_neg (show ¬ i ≤ 64 by omega)]
  rw [if_neg (show ¬ i ≤ 90 by omega)]
  rw [if_neg (show ¬ i ≤ 94 by omega)]
  rw [if_neg (show ¬ i ≤ 95 by omega)]
  rw [if_neg (show ¬ i ≤ 96 by omega)]
  rw [if_neg (show ¬ i ≤ 122 by omega)]
  rw [if_neg (show ¬ i ≤ 191 by omega)]
  rw [if_neg (show ¬ i ≤ 214 by omega)]
  rw [if_neg (show ¬ i ≤ 215 by omega)]
  rw [if_neg (show ¬ i ≤ 246 by omega)]
  rw [if_neg (show ¬ i ≤ 247 by omega)]
  rw [if_neg (show ¬ i ≤ 767 by omega)]
  rw [if_neg (show ¬ i ≤ 879 by omega)]
  rw [if_neg (show ¬ i ≤ 893 by omega)]
  rw [if_neg (show ¬ i ≤ 894 by omega)]
  rw [if_neg (show ¬ i ≤ 8191 by omega)]
  rw [if_neg (show ¬ i ≤ 8203 by omega)]
  rw [if_neg (show ¬ i ≤ 8205 by omega)]
  rw [if_pos (show i ≤ 8303 by omega)]
theorem own_out10 {i : Int} (h1 : 8592 ≤ i) (h2 : i ≤ 11263) : own_ns i = false := by
  unfold own_ns
  rw [if_neg (show ¬ i ≤ 64 by omega)]
  rw [if_neg (show ¬ i ≤ 90 by omega)]
  rw [if_neg (show ¬ i ≤ 94 by omega)]
  rw [if_neg (show ¬ i ≤ 95 by omega)]
  rw [if_neg (show ¬ i ≤ 96 by omega)]
  rw [if_neg (show ¬ i ≤ 122 by omega)]
  rw [if_neg (show ¬ i ≤ 191 by omega)]
  rw [if_neg (show ¬ i ≤ 214 by omega)]
  rw [if_neg (show ¬ i ≤ 215 by omega)]
  rw [if_neg (show ¬ i ≤ 246 by omega)]
  rw [if_neg (show ¬ i ≤ 247 by omega)]
  rw [if_neg (show ¬ i ≤ 767 by omega)]
  rw [if_neg (show ¬ i ≤ 879 by omega)]
  rw [if_neg (show ¬ i ≤ 893 by omega)]
  rw [if_neg (show ¬ i ≤ 894 by omega)]
  rw [if_neg (show ¬ i ≤ 8191 by omega)]
  rw [if_neg (show ¬ i ≤ 8203 by omega)]
  rw [if_neg (show ¬ i ≤ 8205 by omega)]
  rw [if_neg (show ¬ i ≤ 8303 by omega)]
  rw [if_neg (show ¬ i ≤ 8591 by omega)]
  rw [if_pos (show i ≤ 11263 by omega)]
theorem own_out11 {i : Int} (h1 : 12272 ≤ i) (h2 : i ≤ 12288) : own_ns i = false := by
  unfold own_ns
  rw [if_neg (show ¬ i ≤ 64 by omega)]
  rw [if_neg (show ¬ i ≤ 90 by omega)]
  rw [if_neg (show ¬ i ≤ 94 by omega)]
  rw [if_neg (show ¬ i ≤ 95 by omega)]
  rw [if_neg (show ¬ i ≤ 96 by omega)]
  rw [if_neg (show ¬ i ≤ 122 by omega)]
  rw [if_neg (show ¬ i ≤ 191 by omega)]
  rw [if_neg (show ¬ i ≤ 214 by omega)]
  rw [if_neg (show ¬ i ≤ 215 by omega)]
  rw [if_neg (show ¬ i ≤ 246 by omega)]
  rw [if_neg (show ¬ i ≤ 247 by omega)]
  rw [if_neg (show ¬ i ≤ 767 by omega)]
  rw [if_neg (show ¬ i ≤ 879 by omega)]
  rw [if_neg (show ¬ i ≤ 893 by omega)]
  rw [if_neg (show ¬ i ≤ 894 by omega)]
  rw [if_neg (show ¬ i ≤ 8191 by omega)]
  rw [if_neg (show ¬ i ≤ 8203 by omega)]
  rw [if_neg (show ¬ i ≤ 8205 by omega)]
  rw [if_neg (show ¬ i ≤ 8303 by omega)]
  rw [if_neg (show ¬ i ≤ 8591 by omega)]
  rw [if_neg (show ¬ i ≤ 11263 by omega)]
  rw [if_neg (show ¬ i ≤ 12271 by omega)]
  rw [if_pos (show i ≤ 12288 by omega)]
theorem own_out12 {i : Int} (h1 : 55296 ≤ i) (h2 : i ≤ 63743) : own_ns i = false := by
  unfold own_ns
  rw [if_neg (show ¬ i ≤ 64 by omega)]
  rw [if_neg (show ¬ i ≤ 90 by omega)]
  rw [if_neg (show ¬ i ≤ 94 by omega)]
  rw [if_neg (show ¬ i ≤ 95 by omega)]
  rw [if_neg (show ¬ i ≤ 96 by omega)]
  rw [if_neg (show ¬ i ≤ 122 by omega)]
  rw [if_neg (show ¬ i ≤ 191 by omega)]
  rw [if_neg (show ¬ i ≤ 214 by omega)]
  rw [if_neg (show ¬ i ≤ 215 by omega)]
  rw [if_neg (show ¬ i ≤ 246 by omega)]
  rw [if_neg (show ¬ i ≤ 247 by omega)]
  rw [if_neg (show ¬ i ≤ 767 by omega)]
  rw [if_neg (show ¬ i ≤ 879 by omega)]
  rw [if_neg (show ¬ i ≤ 893 by omega)]
  rw [if_neg (show ¬ i ≤ 894 by omega)]
  rw [if_neg (show ¬ i ≤ 8191 by omega)]
  rw [if_neg (show ¬ i ≤ 8203 by omega)]
  rw [if_neg (show ¬ i ≤ 8205 by omega)]
  rw [if_neg (show ¬ i ≤ 8303 by omega)]
  rw [if_neg (show ¬ i ≤ 8591 by omega)]
  rw [if_neg (show ¬ i ≤ 11263 by omega)]
  rw [if_neg (show ¬ i ≤ 12271 by omega)]
  rw [if_neg (show ¬ i ≤ 12288 by omega)]
  rw [if_neg (show ¬ i ≤ 55295 by omega)]
  rw [if_pos (show i ≤ 63743 by omega)]
theorem own_out13 {i : Int} (h1 : 64976 ≤ i) (h2 : i ≤ 65007) : own_ns i = false := by
  unfold own_ns
  rw [if_neg (show ¬ i ≤ 64 by omega)]
  rw [if_neg (show ¬ i ≤ 90 by omega)]
  rw [if_neg (show ¬ i ≤ 94 by omega)]
  rw [if_neg (show ¬ i ≤ 95 by omega)]
  rw [if_neg (show ¬ i ≤ 96 by omega)]
  rw [if_neg (show ¬ i ≤ 122 by omega)]
  rw [if_neg (show ¬ i ≤ 191 by omega)]
  rw [if_neg (show ¬ i ≤ 214 by omega)]
  rw [if_neg (show ¬ i ≤ 215 by omega)]
  rw [if_neg (show ¬ i ≤ 246 by omega)]
  rw [if_neg (show ¬ i ≤ 247 by omega)]
  rw [if_neg (show ¬ i ≤ 767 by omega)]
  rw [if_neg (show ¬ i ≤ 879 by omega)]
  rw [if_neg (show ¬ i ≤ 893 by omega)]
  rw [if_neg (show ¬ i ≤ 894 by omega)]
  rw [if_neg (show ¬ i ≤ 8191 by omega)]
  rw [if_neg (show ¬ i ≤ 8203 by omega)]
  rw [if_neg (show ¬ i ≤ 8205 by omega)]
  rw [if_neg (show ¬ i ≤ 8303 by omega)]
  rw [if_neg (show ¬ i ≤ 8591 by omega)]
  rw [if_neg (show ¬ i ≤ 11263 by omega)]
  rw [if_neg (show ¬ i ≤ 12271 by omega)]
  rw [if_neg (show ¬ i ≤ 12288 by omega)]
  rw [if_neg (show ¬ i ≤ 55295 by omega)]
  rw [if_neg (show ¬ i ≤ 63743 by omega)]
  rw [if_neg (show ¬ i ≤ 64975 by omega)]
  rw [if_pos (show i ≤ 65007 by omega)]
theorem own_out14 {i : Int} (h1 : 65534 ≤ i) (h2 : i ≤ 65535) : own_ns i = false := by
  unfold own_ns
  rw [if_neg (show ¬ i ≤ 64 by omega)]
  rw [if_neg (show ¬ i ≤ 90 by omega)]
  rw [if_neg (show ¬ i ≤ 94 by omega)]
  rw [if_neg (show ¬ i ≤ 95 by omega)]
  rw [if_neg (show ¬ i ≤ 96 by omega)]
  rw [if_neg (show ¬ i ≤ 122 by omega)]
  rw [if_neg (show ¬ i ≤ 191 by omega)]
  rw [if_neg (show ¬ i ≤ 214 by omega)]
  rw [if_neg (show ¬ i ≤ 215 by omega)]
  rw [if_neg (show ¬ i ≤ 246 by omega)]
  rw [if_neg (show ¬ i ≤ 247 by omega)]
  rw [if_neg (show ¬ i ≤ 767 by omega)]
  rw [if_neg (show ¬ i ≤ 879 by omega)]
  rw [if_neg (show ¬ i ≤ 893 by omega)]
  rw [if_neg (show ¬ i ≤ 894 by omega)]
  rw [if_neg (show ¬ i ≤ 8191 by omega)]
  rw [if_neg (show ¬ i ≤ 8203 by omega)]
  rw [if_neg (show ¬ i ≤ 8205 by omega)]
  rw [if_neg (show ¬ i ≤ 8303 by omega)]
  rw [if_neg (show ¬ i ≤ 8591 by omega)]
  rw [if_neg (show ¬ i ≤ 11263 by omega)]
  rw [if_neg (show ¬ i ≤ 12271 by omega)]
  rw [if_neg (show ¬ i ≤ 12288 by omega)]
  rw [if_neg (show ¬ i ≤ 55295 by omega)]
  rw [if_neg (show ¬ i ≤ 63743 by omega)]
  rw [if_neg (show ¬ i ≤ 64975 by omega)]
  rw [if_neg (show ¬ i ≤ 65007 by omega)]
  rw [if_neg (show ¬ i ≤ 65533 by omega)]
  rw [if_pos (show i ≤ 65535 by omega)]
theorem own_out15 {i : Int} (h1 : 983040 ≤ i) : own_ns i = false := by
  unfold own_ns
  rw [if_neg (show ¬ i ≤ 64 by omega)]
  rw [if_neg (show ¬ i ≤ 90 by omega)]
  rw [if_neg (show ¬ i ≤ 94 by omega)]
  rw [if_neg (show ¬ i ≤ 95 by omega)]
  rw [if_neg (show ¬ i ≤ 96 by omega)]
  rw [if_neg (show ¬ i ≤ 122 by omega)]
  rw [if_neg (show ¬ i ≤ 191 by omega)]
  rw [if_neg (show ¬ i ≤ 214 by omega)]
  rw [if_neg (show ¬ i ≤ 215 by omega)]
  rw [if_neg (show ¬ i ≤ 246 by omega)]
  rw [if_neg (show ¬ i ≤ 247 by omega)]
  rw [if_neg (show ¬ i ≤ 767 by omega)]
  rw [if_neg (show ¬ i ≤ 879 by omega)]
  rw [if_neg (show ¬ i ≤ 893 by omega)]
  rw [if_neg (show ¬ i ≤ 894 by omega)]
  rw [if_neg (show ¬ i ≤ 8191 by omega)]
  rw [if_neg (show ¬ i ≤ 8203 by omega)]
  rw [if_neg (show ¬ i ≤ 8205 by omega)]
  rw [if_neg (show ¬ i ≤ 8303 by omega)]
  rw [if_neg (show ¬ i ≤ 8591 by omega)]
  rw [if_neg (show ¬ i ≤ 11263 by omega)]
  rw [if_neg (show ¬ i ≤ 12271 by omega)]
  rw [if_neg (show ¬ i ≤ 12288 by omega)]
  rw [if_neg (show ¬ i ≤ 55295 by omega)]
  rw [if_neg (show ¬ i ≤ 63743 by omega)]
  rw [if_neg (show ¬ i ≤ 64975 by omega)]
  rw [if_neg (show ¬ i ≤ 65007 by omega)]
  rw [if_neg (show ¬ i ≤ 65533 by omega)]
  rw [if_neg (show ¬ i ≤ 65535 by omega)]
  rw [if_neg (show ¬ i ≤ 983039 by omega)]
theorem pd_0 : parseMethodDescriptor "(I)Z" = some ⟨[.int], some .boolean⟩ := by decide +kernel
theorem d1_0 : decode prog_41_method_4_code 0 = .ok (.iload_n 0, 1) := by decide +kernel
theorem d1_1 : decode prog_41_method_4_code 1 = .ok (.bipush 97, 2) := by decide +kernel
theorem d1_3 : decode prog_41_method_4_code 3 = .ok (.if_icmp .lt 9, 3) := by decide +kernel
theorem d1_6 : decode prog_41_method_4_code 6 = .ok (.iload_n 0, 1) := by decide +kernel
theorem d1_7 : decode prog_41_method_4_code 7 = .ok (.bipush 122, 2) := by decide +kernel
theorem d1_9 : decode prog_41_method_4_code 9 = .ok (.if_icmp .le 161, 3) := by decide +kernel
theorem d1_12 : decode prog_41_method_4_code 12 = .ok (.iload_n 0, 1) := by decide +kernel
theorem d1_13 : decode prog_41_method_4_code 13 = .ok (.bipush 65, 2) := by decide +kernel
theorem d1_15 : decode prog_41_method_4_code 15 = .ok (.if_icmp .lt 9, 3) := by decide +kernel
theorem d1_18 : decode prog_41_method_4_code 18 = .ok (.iload_n 0, 1) := by decide +kernel
theorem d1_19 : decode prog_41_method_4_code 19 = .ok (.bipush 90, 2) := by decide +kernel
theorem d1_21 : decode prog_41_method_4_code 21 = .ok (.if_icmp .le 149, 3) := by decide +kernel
theorem d1_24 : decode prog_41_method_4_code 24 = .ok (.iload_n 0, 1) := by decide +kernel
theorem d1_25 : decode prog_41_method_4_code 25 = .ok (.bipush 95, 2) := by decide +kernel
theorem d1_27 : decode prog_41_method_4_code 27 = .ok (.if_icmp .eq 143, 3) := by decide +kernel
theorem d1_30 : decode prog_41_method_4_code 30 = .ok (.iload_n 0, 1) := by decide +kernel
theorem d1_31 : decode prog_41_method_4_code 31 = .ok (.sipush 192, 3) := by decide +kernel
theorem d1_34 : decode prog_41_method_4_code 34 = .ok (.if_icmp .lt 24, 3) := by decide +kernel
theorem d1_37 : decode prog_41_method_4_code 37 = .ok (.iload_n 0, 1) := by decide +kernel
theorem d1_38 : decode prog_41_method_4_code 38 = .ok (.sipush 767, 3) := by decide +kernel
theorem d1_41 : decode prog_41_method_4_code 41 = .ok (.if_icmp .gt 17, 3) := by decide +kernel
theorem d1_44 : decode prog_41_method_4_code 44 = .ok (.iload_n 0, 1) := by decide +kernel
theorem d1_45 : decode prog_41_method_4_code 45 = .ok (.sipush 215, 3) := by decide +kernel
theorem d1_48 : decode prog_41_method_4_code 48 = .ok (.if_icmp .eq 10, 3) := by decide +kernel
theorem d1_51 : decode prog_41_method_4_code 51 = .ok (.iload_n 0, 1) := by decide +kernel
theorem d1_52 : decode prog_41_method_4_code 52 = .ok (.sipush 247, 3) := by decide +kernel
theorem d1_55 : decode prog_41_method_4_code 55 = .ok (.if_icmp .ne 115, 3) := by decide +kernel
theorem d1_58 : decode prog_41_method_4_code 58 = .ok (.iload_n 0, 1) := by decide +kernel
theorem d1_59 : decode prog_41_method_4_code 59 = .ok (.sipush 880, 3) := by decide +kernel
theorem d1_62 : decode prog_41_method_4_code 62 = .ok (.if_icmp .lt 17, 3) := by decide +kernel
theorem d1_65 : decode prog_41_method_4_code 65 = .ok (.iload_n 0, 1) := by decide +kernel
theorem d1_66 : decode prog_41_method_4_code 66 = .ok (.sipush 8191, 3) := by decide +kernel
theorem d1_69 : decode prog_41_method_4_code 69 = .ok (.if_icmp .gt 10, 3) := by decide +kernel
theorem d1_72 : decode prog_41_method_4_code 72 = .ok (.iload_n 0, 1) := by decide +kernel
theorem d1_73 : decode prog_41_method_4_code 73 = .ok (.sipush 894, 3) := by decide +kernel
theorem d1_76 : decode prog_41_method_4_code 76 = .ok (.if_icmp .ne 94, 3) := by decide +kernel
theorem d1_79 : decode prog_41_method_4_code 79 = .ok (.iload_n 0, 1) := by decide +kernel
theorem d1_80 : decode prog_41_method_4_code 80 = .ok (.sipush 8204, 3) := by decide +kernel
theorem d1_83 : decode prog_41_method_4_code 83 = .ok (.if_icmp .eq 87, 3) := by decide +kernel
theorem d1_86 : decode prog_41_method_4_code 86 = .ok (.iload_n 0, 1) := by decide +kernel
theorem d1_87 : decode prog_41_method_4_code 87 = .ok (.sipush 8205, 3) := by decide +kernel
theorem d1_90 : decode prog_41_method_4_code 90 = .ok (.if_icmp .eq 80, 3) := by decide +kernel
theorem d1_93 : decode prog_41_method_4_code 93 = .ok (.iload_n 0, 1) := by decide +kernel
theorem d1_94 : decode prog_41_method_4_code 94 = .ok (.sipush 8304, 3) := by decide +kernel
theorem d1_97 : decode prog_41_method_4_code 97 = .ok (.if_icmp .lt 10, 3) := by decide +kernel
theorem d1_100 : decode prog_41_method_4_code 100 = .ok (.iload_n 0, 1) := by decide +kernel
theorem d1_101 : decode prog_41_method_4_code 101 = .ok (.sipush 8591, 3) := by decide +kernel
theorem d1_104 : decode prog_41_method_4_code 104 = .ok (.if_icmp .le 66, 3) := by decide +kernel
theorem d1_107 : decode prog_41_method_4_code 107 = .ok (.iload_n 0, 1) := by decide +kernel
theorem d1_108 : decode prog_41_method_4_code 108 = .ok (.sipush 11264, 3) := by decide +kernel
theorem d1_111 : decode prog_41_method_4_code 111 = .ok (.if_icmp .lt 10, 3) := by decide +kernel
theorem d1_114 : decode prog_41_method_4_code 114 = .ok (.iload_n 0, 1) := by decide +kernel
theorem d1_115 : decode prog_41_method_4_code 115 = .ok (.sipush 12271, 3) := by decide +kernel
theorem d1_118 : decode prog_41_method_4_code 118 = .ok (.if_icmp .le 52, 3) := by decide +kernel
theorem d1_121 : decode prog_41_method_4_code 121 = .ok (.iload_n 0, 1) := by decide +kernel
theorem d1_122 : decode prog_41_method_4_code 122 = .ok (.sipush 12289, 3) := by decide +kernel
theorem d1_125 : decode prog_41_method_4_code 125 = .ok (.if_icmp .lt 9, 3) := by decide +kernel
theorem d1_128 : decode prog_41_method_4_code 128 = .ok (.iload_n 0, 1) := by decide +kernel
theorem d1_129 : decode prog_41_method_4_code 129 = .ok (.ldc 23, 2) := by decide +kernel
theorem d1_131 : decode prog_41_method_4_code 131 = .ok (.if_icmp .le 39, 3) := by decide +kernel
theorem d1_134 : decode prog_41_method_4_code 134 = .ok (.iload_n 0, 1) := by decide +kernel
theorem d1_135 : decode prog_41_method_4_code 135 = .ok (.ldc 24, 2) := by decide +kernel
theorem d1_137 : decode prog_41_method_4_code 137 = .ok (.if_icmp .lt 9, 3) := by decide +kernel
theorem d1_140 : decode prog_41_method_4_code 140 = .ok (.iload_n 0, 1) := by decide +kernel
theorem d1_141 : decode prog_41_method_4_code 141 = .ok (.ldc 25, 2) := by decide +kernel
theorem d1_143 : decode prog_41_method_4_code 143 = .ok (.if_icmp .le 27, 3) := by decide +kernel
theorem d1_146 : decode prog_41_method_4_code 146 = .ok (.iload_n 0, 1) := by decide +kernel
theorem d1_147 : decode prog_41_method_4_code 147 = .ok (.ldc 26, 2) := by decide +kernel
theorem d1_149 : decode prog_41_method_4_code 149 = .ok (.if_icmp .lt 9, 3) := by decide +kernel
theorem d1_152 : decode prog_41_method_4_code 152 = .ok (.iload_n 0, 1) := by decide +kernel
theorem d1_153 : decode prog_41_method_4_code 153 = .ok (.ldc 27, 2) := by decide +kernel
theorem d1_155 : decode prog_41_method_4_code 155 = .ok (.if_icmp .le 15, 3) := by decide +kernel
theorem d1_158 : decode prog_41_method_4_code 158 = .ok (.iload_n 0, 1) := by decide +kernel
theorem d1_159 : decode prog_41_method_4_code 159 = .ok (.ldc 28, 2) := by decide +kernel
theorem d1_161 : decode prog_41_method_4_code 161 = .ok (.if_icmp .lt 13, 3) := by decide +kernel
theorem d1_164 : decode prog_41_method_4_code 164 = .ok (.iload_n 0, 1) := by decide +kernel
theorem d1_165 : decode prog_41_method_4_code 165 = .ok (.ldc 29, 2) := by decide +kernel
theorem d1_167 : decode prog_41_method_4_code 167 = .ok (.if_icmp .gt 7, 3) := by decide +kernel
theorem d1_170 : decode prog_41_method_4_code 170 = .ok (.iconst 1, 1) := by decide +kernel
theorem d1_171 : decode prog_41_method_4_code 171 = .ok (.goto 4, 3) := by decide +kernel
theorem d1_174 : decode prog_41_method_4_code 174 = .ok (.iconst 0, 1) := by decide +kernel
theorem d1_175 : decode prog_41_method_4_code 175 = .ok (.ireturn, 1) := by decide +kernel
theorem pn_1 : plainFor (⟨"org/axiswarp/xml/XmlCharacters", "isNcNameStartChar", "(I)Z"⟩ : MethodName) = true := plainFor_of_name (by first | (simp [plainName, overriddenIn]; done) | decide +kernel)
theorem ef_1 (m : MethodId) (x0 : Int32) : entryFrame m #[(.int x0)] 1 = mkF m 0 #[.val (.int x0)] [] := by first | (simp [entryFrame, mkF, argsToLocals, Value.category, maxLocals]; done) | rfl
def Q1 (Z : State) (cc : Int32) (h0 : Heap) (n0 : Nat) (v : Option Value) (h : Heap) (L : List Loc) : Prop := v = some (.int (own_nc cc)) ∧ Fr n0 L ∧ h = h0
set_option maxRecDepth 65536 in
set_option maxHeartbeats 40000000 in
theorem rm1 (l : Launch) (Z : State) (a0 : Array Value) (hw : ∀ d ∈ tables_1, d.before a0 Z = true) (ws : List Jvm.Cond) (cc : Int32) (h0 : Heap) (n0 : Nat) (Z0 : n0 ≤ h0.size) :
    MetFree l (⟨"org/axiswarp/xml/XmlCharacters", "isNcNameStartChar", "(I)Z"⟩ : MethodName) (head1 (Jvm.Cond.code (⟨"org/axiswarp/xml/XmlCharacters", "isNcNameStartChar", "(I)Z"⟩ : MethodName) prog_41_method_4_code 1 (some .boolean) :: ws) ({ frames := 0, cells := 0, slots := 0, locals := 0 } : Room)) (fun arr' U => arr' = #[(.int cc)] ∧ Z.Warmed39 U.vm ∧ U.heap = h0) (fun _ _ _ _ _ => True) (fun _ U o U' => ∃ v L, o = .returned v ∧ (Q1 Z cc h0 n0) v U'.heap L ∧ FrameEnd U o U' L ({ frames := 0, cells := 0, slots := 0, locals := 0 } : Room).cells ({ frames := 0, cells := 0, slots := 0, locals := 0 } : Room).slots) := by
  refine MetFree.of_bodySF pn_1 hisR ?_
  intro p e s m args below meth c s₁ Bd hml0 hP hK
  obtain ⟨rfl, hZ, hh⟩ := hP
  have hx := Bd.exec
  have hby := Bd.bytes
  have hlk : meth.locks = false := BodyLoose.notSynchronized Bd
  have hml : c.maxLocals = 1 := hml0
  have hown : s.vm.findClass "org/axiswarp/xml/XmlCharacters" = some m.cls := findClass_of_methodNamed Bd.named
  have hnm := (name_of_methodNamed Bd.named Bd.method).1
  have X0 : Stand p l e ({ frames := 0, cells := 0, slots := 0, locals := 0 } : Room) s m #[(.int cc)] below meth c s₁ [] 0 0 := Stand.of_body Bd
  have e0 : s₁.heap = h0 := by rw [← hh, Bd.state]; rfl
  have N := Fr.nil n0
  have Zs := Z0
  change OwnGo p.tables e below (OwnEnd s (Q1 Z cc h0 n0) ({ frames := 0, cells := 0, slots := 0, locals := 0 } : Room).cells ({ frames := 0, cells := 0, slots := 0, locals := 0 } : Room).slots) _
  refine OwnGo.fwd (fun tq' kq' => castTop (ef_1 m cc) kq') ?_
  show OwnGo _ _ _ _ (s₁.setTop (mkF m 0 #[.val (.int cc)] []))
  refine OwnGo.fwd (fun tq' kq' => XS.iloadN X0.here hx rfl (hb hby d1_0) rfl kq') ?_
  show OwnGo _ _ _ _ (s₁.setTop (mkF m 1 #[.val (.int cc)] [(.int cc)]))
  refine OwnGo.fwd (fun tq' kq' => XS.bipush X0.here hx rfl (hb hby d1_1) kq') ?_
  show OwnGo _ _ _ _ (s₁.setTop (mkF m 3 #[.val (.int cc)] [(.int (97 : Int32)), (.int cc)]))
  by_cases hc3_1 : cc.toInt < 97
  · refine OwnGo.fwd (fun tq' kq' => XS.icmpYes X0.here hx rfl (pc0 := 3) (pc' := 12) rfl (hb hby d1_3) rfl (own_blt rfl (by decide) hc3_1).1 (by decide) (by decide) kq') ?_
    show OwnGo _ _ _ _ (s₁.setTop (mkF m 12 #[.val (.int cc)] []))
    refine OwnGo.fwd (fun tq' kq' => XS.iloadN X0.here hx rfl (hb hby d1_12) rfl kq') ?_
    show OwnGo _ _ _ _ (s₁.setTop (mkF m 13 #[.val (.int cc)] [(.int cc)]))
    refine OwnGo.fwd (fun tq' kq' => XS.bipush X0.here hx rfl (hb hby d1_13) kq') ?_
    show OwnGo _ _ _ _ (s₁.setTop (mkF m 15 #[.val (.int cc)] [(.int (65 : Int32)), (.int cc)]))
    by_cases hc15_2 : cc.toInt < 65
    · refine OwnGo.fwd (fun tq' kq' => XS.icmpYes X0.here hx rfl (pc0 := 15) (pc' := 24) rfl (hb hby d1_15) rfl (own_blt rfl (by decide) hc15_2).1 (by decide) (by decide) kq') ?_
      show OwnGo _ _ _ _ (s₁.setTop (mkF m 24 #[.val (.int cc)] []))
      refine OwnGo.fwd (fun tq' kq' => XS.iloadN X0.here hx rfl (hb hby d1_24) rfl kq') ?_
      show OwnGo _ _ _ _ (s₁.setTop (mkF m 25 #[.val (.int cc)] [(.int cc)]))
      refine OwnGo.fwd (fun tq' kq' => XS.bipush X0.here hx rfl (hb hby d1_25) kq') ?_
      show OwnGo _ _ _ _ (s₁.setTop (mkF m 27 #[.val (.int cc)] [(.int (95 : Int32)), (.int cc)]))
      have hc27_3 : ¬ (cc.toInt = 95) := own_b6 (Int.le_sub_one_of_lt hc15_2) (by decide)
      refine OwnGo.fwd (fun tq' kq' => XS.icmpNo X0.here hx rfl (hb hby d1_27) rfl (own_bneq rfl (by decide) hc27_3).1 kq') ?_
      show OwnGo _ _ _ _ (s₁.setTop (mkF m 30 #[.val (.int cc)] []))
      refine OwnGo.fwd (fun tq' kq' => XS.iloadN X0.here hx rfl (hb hby d1_30) rfl kq') ?_
      show OwnGo _ _ _ _ (s₁.setTop (mkF m 31 #[.val (.int cc)] [(.int cc)]))
      refine OwnGo.fwd (fun tq' kq' => XS.sipush X0.here hx rfl (hb hby d1_31) kq') ?_
      show OwnGo _ _ _ _ (s₁.setTop (mkF m 34 #[.val (.int cc)] [(.int (192 : Int32)), (.int cc)]))
      have hc34_4 : cc.toInt < 192 := own_b1 (Int.le_sub_one_of_lt hc15_2) (by decide)
      refine OwnGo.fwd (fun tq' kq' => XS.icmpYes X0.here hx rfl (pc0 := 34) (pc' := 58) rfl (hb hby d1_34) rfl (own_blt rfl (by decide) hc34_4).1 (by decide) (by decide) kq') ?_
      show OwnGo _ _ _ _ (s₁.setTop (mkF m 58 #[.val (.int cc)] []))
      refine OwnGo.fwd (fun tq' kq' => XS.iloadN X0.here hx rfl (hb hby d1_58) rfl kq') ?_
      show OwnGo _ _ _ _ (s₁.setTop (mkF m 59 #[.val (.int cc)] [(.int cc)]))
      refine OwnGo.fwd (fun tq' kq' => XS.sipush X0.here hx rfl (hb hby d1_59) kq') ?_
      show OwnGo _ _ _ _ (s₁.setTop (mkF m 62 #[.val (.int cc)] [(.int (880 : Int32)), (.int cc)]))
      have hc62_5 : cc.toInt < 880 := own_b1 (Int.le_sub_one_of_lt hc15_2) (by decide)
      refine OwnGo.fwd (fun tq' kq' => XS.icmpYes X0.here hx rfl (pc0 := 62) (pc' := 79) rfl (hb hby d1_62) rfl (own_blt rfl (by decide) hc62_5).1 (by decide) (by decide) kq') ?_
      show OwnGo _ _ _ _ (s₁.setTop (mkF m 79 #[.val (.int cc)] []))
      refine OwnGo.fwd (fun tq' kq' => XS.iloadN X0.here hx rfl (hb hby d1_79) rfl kq') ?_
      show OwnGo _ _ _ _ (s₁.setTop (mkF m 80 #[.val (.int cc)] [(.int cc)]))
      refine OwnGo.fwd (fun tq' kq' => XS.sipush X0.here hx rfl (hb hby d1_80) kq') ?_
      show OwnGo _ _ _ _ (s₁.setTop (mkF m 83 #[.val (.int cc)] [(.int (8204 : Int32)), (.int cc)]))
      have hc83_6 : ¬ (cc.toInt = 8204) := own_b6 (Int.le_sub_one_of_lt hc15_2) (by decide)
      refine OwnGo.fwd (fun tq' kq' => XS.icmpNo X0.here hx rfl (hb hby d1_83) rfl (own_bneq rfl (by decide) hc83_6).1 kq') ?_
      show OwnGo _ _ _ _ (s₁.setTop (mkF m 86 #[.val (.int cc)] []))
      refine OwnGo.fwd (fun tq' kq' => XS.iloadN X0.here hx rfl (hb hby d1_86) rfl kq') ?_
      show OwnGo _ _ _ _ (s₁.setTop (mkF m 87 #[.val (.int cc)] [(.int cc)]))
      refine OwnGo.fwd (fun tq' kq' => XS.sipush X0.here hx rfl (hb hby d1_87) kq') ?_
      show OwnGo _ _ _ _ (s₁.setTop (mkF m 90 #[.val (.int cc)] [(.int (8205 : Int32)), (.int cc)]))
      have hc90_7 : ¬ (cc.toInt = 8205) := own_b6 (Int.le_sub_one_of_lt hc15_2) (by decide)
      refine OwnGo.fwd (fun tq' kq' => XS.icmpNo X0.here hx rfl (hb hby d1_90) rfl (own_bneq rfl (by decide) hc90_7).1 kq') ?_
      show OwnGo _ _ _ _ (s₁.setTop (mkF m 93 #[.val (.int cc)] []))
      refine OwnGo.fwd (fun tq' kq' => XS.iloadN X0.here hx rfl (hb hby d1_93) rfl kq') ?_
      show OwnGo _ _ _ _ (s₁.setTop (mkF m 94 #[.val (.int cc)] [(.int cc)]))
      refine OwnGo.fwd (fun tq' kq' => XS.sipush X0.here hx rfl (hb hby d1_94) kq') ?_
      show OwnGo _ _ _ _ (s₁.setTop (mkF m 97 #[.val (.int cc)] [(.int (8304 : Int32)), (.int cc)]))
      have hc97_8 : cc.toInt < 8304 := own_b1 (Int.le_sub_one_of_lt hc15_2) (by decide)
      refine OwnGo.fwd (fun tq' kq' => XS.icmpYes X0.here hx rfl (pc0 := 97) (pc' := 107) rfl (hb hby d1_97) rfl (own_blt rfl (by decide) hc97_8).1 (by decide) (by decide) kq') ?_
      show OwnGo _ _ _ _ (s₁.setTop (mkF m 107 #[.val (.int cc)] []))
      refine OwnGo.fwd (fun tq' kq' => XS.iloadN X0.here hx rfl (hb hby d1_107) rfl kq') ?_
      show OwnGo _ _ _ _ (s₁.setTop (mkF m 108 #[.val (.int cc)] [(.int cc)]))
      refine OwnGo.fwd (fun tq' kq' => XS.sipush X0.here hx rfl (hb hby d1_108) kq') ?_
      show OwnGo _ _ _ _ (s₁.setTop (mkF m 111 #[.val (.int cc)] [(.int (11264 : Int32)), (.int cc)]))
      have hc111_9 : cc.toInt < 11264 := own_b1 (Int.le_sub_one_of_lt hc15_2) (by decide)
      refine OwnGo.fwd (fun tq' kq' => XS.icmpYes X0.here hx rfl (pc0 := 111) (pc' := 121) rfl (hb hby d1_111) rfl (own_blt rfl (by decide) hc111_9).1 (by decide) (by decide) kq') ?_
      show OwnGo _ _ _ _ (s₁.setTop (mkF m 121 #[.val (.int cc)] []))
      refine OwnGo.fwd (fun tq' kq' => XS.iloadN X0.here hx rfl (hb hby d1_121) rfl kq') ?_
      show OwnGo _ _ _ _ (s₁.setTop (mkF m 122 #[.val (.int cc)] [(.int cc)]))
      refine OwnGo.fwd (fun tq' kq' => XS.sipush X0.here hx rfl (hb hby d1_122) kq') ?_
      show OwnGo _ _ _ _ (s₁.setTop (mkF m 125 #[.val (.int cc)] [(.int (12289 : Int32)), (.int cc)]))
      have hc125_10 : cc.toInt < 12289 := own_b1 (Int.le_sub_one_of_lt hc15_2) (by decide)
      refine OwnGo.fwd (fun tq' kq' => XS.icmpYes X0.here hx rfl (pc0 := 125) (pc' := 134) rfl (hb hby d1_125) rfl (own_blt rfl (by decide) hc125_10).1 (by decide) (by decide) kq') ?_
      show OwnGo _ _ _ _ (s₁.setTop (mkF m 134 #[.val (.int cc)] []))
      refine OwnGo.fwd (fun tq' kq' => XS.iloadN X0.here hx rfl (hb hby d1_134) rfl kq') ?_
      show OwnGo _ _ _ _ (s₁.setTop (mkF m 135 #[.val (.int cc)] [(.int cc)]))
      refine OwnGo.fwd (fun tq' kq' => X0.ldcInt hx hown (mvT hZ (hw _ (List.mem_of_getElem? (i := 14) rfl))) (g := (mkF m 135 #[.val (.int cc)] [(.int cc)])) rfl (hb hby d1_135) tq' kq') ?_
      show OwnGo _ _ _ _ (s₁.setTop (mkF m 137 #[.val (.int cc)] [(.int (63744 : Int32)), (.int cc)]))
      have hc137_11 : cc.toInt < 63744 := own_b1 (Int.le_sub_one_of_lt hc15_2) (by decide)
      refine OwnGo.fwd (fun tq' kq' => XS.icmpYes X0.here hx rfl (pc0 := 137) (pc' := 146) rfl (hb hby d1_137) rfl (own_blt rfl (by decide) hc137_11).1 (by decide) (by decide) kq') ?_
      show OwnGo _ _ _ _ (s₁.setTop (mkF m 146 #[.val (.int cc)] []))
      refine OwnGo.fwd (fun tq' kq' => XS.iloadN X0.here hx rfl (hb hby d1_146) rfl kq') ?_
      show OwnGo _ _ _ _ (s₁.setTop (mkF m 147 #[.val (.int cc)] [(.int cc)]))
      refine OwnGo.fwd (fun tq' kq' => X0.ldcInt hx hown (mvT hZ (hw _ (List.mem_of_getElem? (i := 15) rfl))) (g := (mkF m 147 #[.val (.int cc)] [(.int cc)])) rfl (hb hby d1_147) tq' kq') ?_
      show OwnGo _ _ _ _ (s₁.setTop (mkF m 149 #[.val (.int cc)] [(.int (65008 : Int32)), (.int cc)]))
      have hc149_12 : cc.toInt < 65008 := own_b1 (Int.le_sub_one_of_lt hc15_2) (by decide)
      refine OwnGo.fwd (fun tq' kq' => XS.icmpYes X0.here hx rfl (pc0 := 149) (pc' := 158) rfl (hb hby d1_149) rfl (own_blt rfl (by decide) hc149_12).1 (by decide) (by decide) kq') ?_
      show OwnGo _ _ _ _ (s₁.setTop (mkF m 158 #[.val (.int cc)] []))
      refine OwnGo.fwd (fun tq' kq' => XS.iloadN X0.here hx rfl (hb hby d1_158) rfl kq') ?_
      show OwnGo _ _ _ _ (s₁.setTop (mkF m 159 #[.val (.int cc)] [(.int cc)]))
      refine OwnGo.fwd (fun tq' kq' => X0.ldcInt hx hown (mvT hZ (hw _ (List.mem_of_getElem? (i := 16) rfl))) (g := (mkF m 159 #[.val (.int cc)] [(.int cc)])) rfl (hb hby d1_159) tq' kq') ?_
      show OwnGo _ _ _ _ (s₁.setTop (mkF m 161 #[.val (.int cc)] [(.int (65536 : Int32)), (.int cc)]))
      have hc161_13 : cc.toInt < 65536 := own_b1 (Int.le_sub_one_of_lt hc15_2) (by decide)
      refine OwnGo.fwd (fun tq' kq' => XS.icmpYes X0.here hx rfl (pc0 := 161) (pc' := 174) rfl (hb hby d1_161) rfl (own_blt rfl (by decide) hc161_13).1 (by decide) (by decide) kq') ?_
      show OwnGo _ _ _ _ (s₁.setTop (mkF m 174 #[.val (.int cc)] []))
      refine OwnGo.fwd (fun tq' kq' => XS.iconst X0.here hx rfl (hb hby d1_174) kq') ?_
      show OwnGo _ _ _ _ (s₁.setTop (mkF m 175 #[.val (.int cc)] [(.int (0 : Int32))]))
      exact own_retZ X0 hlk hx Bd.returns (hb hby d1_175) (by decide) (by decide) e0 ⟨by rw [own_nc0 (own_out0 (by omega))]; rfl, N, rfl⟩
    · refine OwnGo.fwd (fun tq' kq' => XS.icmpNo X0.here hx rfl (hb hby d1_15) rfl (own_bnlt rfl (by decide) hc15_2).1 kq') ?_
      show OwnGo _ _ _ _ (s₁.setTop (mkF m 18 #[.val (.int cc)] []))
      refine OwnGo.fwd (fun tq' kq' => XS.iloadN X0.here hx rfl (hb hby d1_18) rfl kq') ?_
      show OwnGo _ _ _ _ (s₁.setTop (mkF m 19 #[.val (.int cc)] [(.int cc)]))
      refine OwnGo.fwd (fun tq' kq' => XS.bipush X0.here hx rfl (hb hby d1_19) kq') ?_
      show OwnGo _ _ _ _ (s₁.setTop (mkF m 21 #[.val (.int cc)] [(.int (90 : Int32)), (.int cc)]))
      by_cases hc21_14 : 90 < cc.toInt
      · refine OwnGo.fwd (fun tq' kq' => XS.icmpNo X0.here hx rfl (hb hby d1_21) rfl (own_blt (by decide) rfl hc21_14).2.2.2 kq') ?_
        show OwnGo _ _ _ _ (s₁.setTop (mkF m 24 #[.val (.int cc)] []))
        refine OwnGo.fwd (fun tq' kq' => XS.iloadN X0.here hx rfl (hb hby d1_24) rfl kq') ?_
        show OwnGo _ _ _ _ (s₁.setTop (mkF m 25 #[.val (.int cc)] [(.int cc)]))
        refine OwnGo.fwd (fun tq' kq' => XS.bipush X0.here hx rfl (hb hby d1_25) kq') ?_
        show OwnGo _ _ _ _ (s₁.setTop (mkF m 27 #[.val (.int cc)] [(.int (95 : Int32)), (.int cc)]))
        by_cases hc27_15 : cc.toInt = 95
        · refine OwnGo.fwd (fun tq' kq' => XS.icmpYes X0.here hx rfl (pc0 := 27) (pc' := 170) rfl (hb hby d1_27) rfl (own_beq rfl (by decide) hc27_15).1 (by decide) (by decide) kq') ?_
          show OwnGo _ _ _ _ (s₁.setTop (mkF m 170 #[.val (.int cc)] []))
          refine OwnGo.fwd (fun tq' kq' => XS.iconst X0.here hx rfl (hb hby d1_170) kq') ?_
          show OwnGo _ _ _ _ (s₁.setTop (mkF m 171 #[.val (.int cc)] [(.int (1 : Int32))]))
          refine OwnGo.fwd (fun tq' kq' => XS.goto X0.here hx rfl (pc0 := 171) (pc' := 175) rfl (hb hby d1_171) (by decide) (by decide) kq') ?_
          show OwnGo _ _ _ _ (s₁.setTop (mkF m 175 #[.val (.int cc)] [(.int (1 : Int32))]))
          exact own_retZ X0 hlk hx Bd.returns (hb hby d1_175) (by decide) (by decide) e0 ⟨by rw [own_nc1 (own_in1 (by omega) (by omega))]; rfl, N, rfl⟩
        · refine OwnGo.fwd (fun tq' kq' => XS.icmpNo X0.here hx rfl (hb hby d1_27) rfl (own_bneq rfl (by decide) hc27_15).1 kq') ?_
          show OwnGo _ _ _ _ (s₁.setTop (mkF m 30 #[.val (.int cc)] []))
          refine OwnGo.fwd (fun tq' kq' => XS.iloadN X0.here hx rfl (hb hby d1_30) rfl kq') ?_
          show OwnGo _ _ _ _ (s₁.setTop (mkF m 31 #[.val (.int cc)] [(.int cc)]))
          refine OwnGo.fwd (fun tq' kq' => XS.sipush X0.here hx rfl (hb hby d1_31) kq') ?_
          show OwnGo _ _ _ _ (s₁.setTop (mkF m 34 #[.val (.int cc)] [(.int (192 : Int32)), (.int cc)]))
          have hc34_16 : cc.toInt < 192 := own_b1 (Int.le_sub_one_of_lt hc3_1) (by decide)
          refine OwnGo.fwd (fun tq' kq' => XS.icmpYes X0.here hx rfl (pc0 := 34) (pc' := 58) rfl (hb hby d1_34) rfl (own_blt rfl (by decide) hc34_16).1 (by decide) (by decide) kq') ?_
          show OwnGo _ _ _ _ (s₁.setTop (mkF m 58 #[.val (.int cc)] []))
          refine OwnGo.fwd (fun tq' kq' => XS.iloadN X0.here hx rfl (hb hby d1_58) rfl kq') ?_
          show OwnGo _ _ _ _ (s₁.setTop (mkF m 59 #[.val (.int cc)] [(.int cc)]))
          refine OwnGo.fwd (fun tq' kq' => XS.sipush X0.here hx rfl (hb hby d1_59) kq') ?_
          show OwnGo _ _ _ _ (s₁.setTop (mkF m 62 #[.val (.int cc)] [(.int (880 : Int32)), (.int cc)]))
          have hc62_17 : cc.toInt < 880 := own_b1 (Int.le_sub_one_of_lt hc3_1) (by decide)
          refine OwnGo.fwd (fun tq' kq' => XS.icmpYes X0.here hx rfl (pc0 := 62) (pc' := 79) rfl (hb hby d1_62) rfl (own_blt rfl (by decide) hc62_17).1 (by decide) (by decide) kq') ?_
          show OwnGo _ _ _ _ (s₁.setTop (mkF m 79 #[.val (.int cc)] []))
          refine OwnGo.fwd (fun tq' kq' => XS.iloadN X0.here hx rfl (hb hby d1_79) rfl kq') ?_
          show OwnGo _ _ _ _ (s₁.setTop (mkF m 80 #[.val (.int cc)] [(.int cc)]))
          refine OwnGo.fwd (fun tq' kq' => XS.sipush X0.here hx rfl (hb hby d1_80) kq') ?_
          show OwnGo _ _ _ _ (s₁.setTop (mkF m 83 #[.val (.int cc)] [(.int (8204 : Int32)), (.int cc)]))
          have hc83_18 : ¬ (cc.toInt = 8204) := own_b6 (Int.le_sub_one_of_lt hc3_1) (by decide)
          refine OwnGo.fwd (fun tq' kq' => XS.icmpNo X0.here hx rfl (hb hby d1_83) rfl (own_bneq rfl (by decide) hc83_18).1 kq') ?_
          show OwnGo _ _ _ _ (s₁.setTop (mkF m 86 #[.val (.int cc)] []))
          refine OwnGo.fwd (fun tq' kq' => XS.iloadN X0.here hx rfl (hb hby d1_86) rfl kq') ?_
          show OwnGo _ _ _ _ (s₁.setTop (mkF m 87 #[.val (.int cc)] [(.int cc)]))
          refine OwnGo.fwd (fun tq' kq' => XS.sipush X0.here hx rfl (hb hby d1_87) kq') ?_
          show OwnGo _ _ _ _ (s₁.setTop (mkF m 90 #[.val (.int cc)] [(.int (8205 : Int32)), (.int cc)]))
          have hc90_19 : ¬ (cc.toInt = 8205) := own_b6 (Int.le_sub_one_of_lt hc3_1) (by decide)
          refine OwnGo.fwd (fun tq' kq' => XS.icmpNo X0.here hx rfl (hb hby d1_90) rfl (own_bneq rfl (by decide) hc90_19).1 kq') ?_
          show OwnGo _ _ _ _ (s₁.setTop (mkF m 93 #[.val (.int cc)] []))
          refine OwnGo.fwd (fun tq' kq' => XS.iloadN X0.here hx rfl (hb hby d1_93) rfl kq') ?_
          show OwnGo _ _ _ _ (s₁.setTop (mkF m 94 #[.val (.int cc)] [(.int cc)]))
          refine OwnGo.fwd (fun tq' kq' => XS.sipush X0.here hx rfl (hb hby d1_94) kq') ?_
          show OwnGo _ _ _ _ (s₁.setTop (mkF m 97 #[.val (.int cc)] [(.int (8304 : Int32)), (.int cc)]))
          have hc97_20 : cc.toInt < 8304 := own_b1 (Int.le_sub_one_of_lt hc3_1) (by decide)
          refine OwnGo.fwd (fun tq' kq' => XS.icmpYes X0.here hx rfl (pc0 := 97) (pc' := 107) rfl (hb hby d1_97) rfl (own_blt rfl (by decide) hc97_20).1 (by decide) (by decide) kq') ?_
          show OwnGo _ _ _ _ (s₁.setTop (mkF m 107 #[.val (.int cc)] []))
          refine OwnGo.fwd (fun tq' kq' => XS.iloadN X0.here hx rfl (hb hby d1_107) rfl kq') ?_
          show OwnGo _ _ _ _ (s₁.setTop (mkF m 108 #[.val (.int cc)] [(.int cc)]))
          refine OwnGo.fwd (fun tq' kq' => XS.sipush X0.here hx rfl (hb hby d1_108) kq') ?_
          show OwnGo _ _ _ _ (s₁.setTop (mkF m 111 #[.val (.int cc)] [(.int (11264 : Int32)), (.int cc)]))
          have hc111_21 : cc.toInt < 11264 := own_b1 (Int.le_sub_one_of_lt hc3_1) (by decide)
          refine OwnGo.fwd (fun tq' kq' => XS.icmpYes X0.here hx rfl (pc0 := 111) (pc' := 121) rfl (hb hby d1_111) rfl (own_blt rfl (by decide) hc111_21).1 (by decide) (by decide) kq') ?_
          show OwnGo _ _ _ _ (s₁.setTop (mkF m 121 #[.val (.int cc)] []))
          refine OwnGo.fwd (fun tq' kq' => XS.iloadN X0.here hx rfl (hb hby d1_121) rfl kq') ?_
          show OwnGo _ _ _ _ (s₁.setTop (mkF m 122 #[.val (.int cc)] [(.int cc)]))
          refine OwnGo.fwd (fun tq' kq' => XS.sipush X0.here hx rfl (hb hby d1_122) kq') ?_
          show OwnGo _ _ _ _ (s₁.setTop (mkF m 125 #[.val (.int cc)] [(.int (12289 : Int32)), (.int cc)]))
          have hc125_22 : cc.toInt < 12289 := own_b1 (Int.le_sub_one_of_lt hc3_1) (by decide)
          refine OwnGo.fwd (fun tq' kq' => XS.icmpYes X0.here hx rfl (pc0 := 125) (pc' := 134) rfl (hb hby d1_125) rfl (own_blt rfl (by decide) hc125_22).1 (by decide) (by decide) kq') ?_
          show OwnGo _ _ _ _ (s₁.setTop (mkF m 134 #[.val (.int cc)] []))
          refine OwnGo.fwd (fun tq' kq' => XS.iloadN X0.here hx rfl (hb hby d1_134) rfl kq') ?_
          show OwnGo _ _ _ _ (s₁.setTop (mkF m 135 #[.val (.int cc)] [(.int cc)]))
          refine OwnGo.fwd (fun tq' kq' => X0.ldcInt hx hown (mvT hZ (hw _ (List.mem_of_getElem? (i := 14) rfl))) (g := (mkF m 135 #[.val (.int cc)] [(.int cc)])) rfl (hb hby d1_135) tq' kq') ?_
          show OwnGo _ _ _ _ (s₁.setTop (mkF m 137 #[.val (.int cc)] [(.int (63744 : Int32)), (.int cc)]))
          have hc137_23 : cc.toInt < 63744 := own_b1 (Int.le_sub_one_of_lt hc3_1) (by decide)
          refine OwnGo.fwd (fun tq' kq' => XS.icmpYes X0.here hx rfl (pc0 := 137) (pc' := 146) rfl (hb hby d1_137) rfl (own_blt rfl (by decide) hc137_23).1 (by decide) (by decide) kq') ?_
          show OwnGo _ _ _ _ (s₁.setTop (mkF m 146 #[.val (.int cc)] []))
          refine OwnGo.fwd (fun tq' kq' => XS.iloadN X0.here hx rfl (hb hby d1_146) rfl kq') ?_
          show OwnGo _ _ _ _ (s₁.setTop (mkF m 147 #[.val (.int cc)] [(.int cc)]))
          refine OwnGo.fwd (fun tq' kq' => X0.ldcInt hx hown (mvT hZ (hw _ (List.mem_of_getElem? (i := 15) rfl))) (g := (mkF m 147 #[.val (.int cc)] [(.int cc)])) rfl (hb hby d1_147) tq' kq') ?_
          show OwnGo _ _ _ _ (s₁.setTop (mkF m 149 #[.val (.int cc)] [(.int (65008 : Int32)), (.int cc)]))
          have hc149_24 : cc.toInt < 65008 := own_b1 (Int.le_sub_one_of_lt hc3_1) (by decide)
          refine OwnGo.fwd (fun tq' kq' => XS.icmpYes X0.here hx rfl (pc0 := 149) (pc' := 158) rfl (hb hby d1_149) rfl (own_blt rfl (by decide) hc149_24).1 (by decide) (by decide) kq') ?_
          show OwnGo _ _ _ _ (s₁.setTop (mkF m 158 #[.val (.int cc)] []))
          refine OwnGo.fwd (fun tq' kq' => XS.iloadN X0.here hx rfl (hb hby d1_158) rfl kq') ?_
          show OwnGo _ _ _ _ (s₁.setTop (mkF m 159 #[.val (.int cc)] [(.int cc)]))
          refine OwnGo.fwd (fun tq' kq' => X0.ldcInt hx hown (mvT hZ (hw _ (List.mem_of_getElem? (i := 16) rfl))) (g := (mkF m 159 #[.val (.int cc)] [(.int cc)])) rfl (hb hby d1_159) tq' kq') ?_
          show OwnGo _ _ _ _ (s₁.setTop (mkF m 161 #[.val (.int cc)] [(.int (65536 : Int32)), (.int cc)]))
          have hc161_25 : cc.toInt < 65536 := own_b1 (Int.le_sub_one_of_lt hc3_1) (by decide)
          refine OwnGo.fwd (fun tq' kq' => XS.icmpYes X0.here hx rfl (pc0 := 161) (pc' := 174) rfl (hb hby d1_161) rfl (own_blt rfl (by decide) hc161_25).1 (by decide) (by decide) kq') ?_
          show OwnGo _ _ _ _ (s₁.setTop (mkF m 174 #[.val (.int cc)] []))
          refine OwnGo.fwd (fun tq' kq' => XS.iconst X0.here hx rfl (hb hby d1_174) kq') ?_
          show OwnGo _ _ _ _ (s₁.setTop (mkF m 175 #[.val (.int cc)] [(.int (0 : Int32))]))
          exact own_retZ X0 hlk hx Bd.returns (hb hby d1_175) (by decide) (by decide) e0 ⟨by rw [own_nc0 (if hq : cc.toInt < 95 then (own_out1 (by omega) (by omega)) else (own_out2 (by omega) (by omega)))]; rfl, N, rfl⟩
      · refine OwnGo.fwd (fun tq' kq' => XS.icmpYes X0.here hx rfl (pc0 := 21) (pc' := 170) rfl (hb hby d1_21) rfl (own_bnlt (by decide) rfl hc21_14).2.2.2 (by decide) (by decide) kq') ?_
        show OwnGo _ _ _ _ (s₁.setTop (mkF m 170 #[.val (.int cc)] []))
        refine OwnGo.fwd (fun tq' kq' => XS.iconst X0.here hx rfl (hb hby d1_170) kq') ?_
        show OwnGo _ _ _ _ (s₁.setTop (mkF m 171 #[.val (.int cc)] [(.int (1 : Int32))]))
        refine OwnGo.fwd (fun tq' kq' => XS.goto X0.here hx rfl (pc0 := 171) (pc' := 175) rfl (hb hby d1_171) (by decide) (by decide) kq') ?_
        show OwnGo _ _ _ _ (s₁.setTop (mkF m 175 #[.val (.int cc)] [(.int (1 : Int32))]))
        exact own_retZ X0 hlk hx Bd.returns (hb hby d1_175) (by decide) (by decide) e0 ⟨by rw [own_nc1 (own_in0 (by omega) (by omega))]; rfl, N, rfl⟩
  · refine OwnGo.fwd (fun tq' kq' => XS.icmpNo X0.here hx rfl (hb hby d1_3) rfl (own_bnlt rfl (by decide) hc3_1).1 kq') ?_
    show OwnGo _ _ _ _ (s₁.setTop (mkF m 6 #[.val (.int cc)] []))
    refine OwnGo.fwd (fun tq' kq' => XS.iloadN X0.here hx rfl (hb hby d1_6) rfl kq') ?_
    show OwnGo _ _ _ _ (s₁.setTop (mkF m 7 #[.val (.int cc)] [(.int cc)]))
    refine OwnGo.fwd (fun tq' kq' => XS.bipush X0.here hx rfl (hb hby d1_7) kq') ?_
    show OwnGo _ _ _ _ (s₁.setTop (mkF m 9 #[.val (.int cc)] [(.int (122 : Int32)), (.int cc)]))
    by_cases hc9_26 : 122 < cc.toInt
    · refine OwnGo.fwd (fun tq' kq' => XS.icmpNo X0.here hx rfl (hb hby d1_9) rfl (own_blt (by decide) rfl hc9_26).2.2.2 kq') ?_
      show OwnGo _ _ _ _ (s₁.setTop (mkF m 12 #[.val (.int cc)] []))
      refine OwnGo.fwd (fun tq' kq' => XS.iloadN X0.here hx rfl (hb hby d1_12) rfl kq') ?_
      show OwnGo _ _ _ _ (s₁.setTop (mkF m 13 #[.val (.int cc)] [(.int cc)]))
      refine OwnGo.fwd (fun tq' kq' => XS.bipush X0.here hx rfl (hb hby d1_13) kq') ?_
      show OwnGo _ _ _ _ (s₁.setTop (mkF m 15 #[.val (.int cc)] [(.int (65 : Int32)), (.int cc)]))
      have hc15_27 : ¬ (cc.toInt < 65) := own_b2 (Int.add_one_le_of_lt hc9_26) (by decide)
      refine OwnGo.fwd (fun tq' kq' => XS.icmpNo X0.here hx rfl (hb hby d1_15) rfl (own_bnlt rfl (by decide) hc15_27).1 kq') ?_
      show OwnGo _ _ _ _ (s₁.setTop (mkF m 18 #[.val (.int cc)] []))
      refine OwnGo.fwd (fun tq' kq' => XS.iloadN X0.here hx rfl (hb hby d1_18) rfl kq') ?_
      show OwnGo _ _ _ _ (s₁.setTop (mkF m 19 #[.val (.int cc)] [(.int cc)]))
      refine OwnGo.fwd (fun tq' kq' => XS.bipush X0.here hx rfl (hb hby d1_19) kq') ?_
      show OwnGo _ _ _ _ (s₁.setTop (mkF m 21 #[.val (.int cc)] [(.int (90 : Int32)), (.int cc)]))
      have hc21_28 : 90 < cc.toInt := own_b3 (Int.add_one_le_of_lt hc9_26) (by decide)
      refine OwnGo.fwd (fun tq' kq' => XS.icmpNo X0.here hx rfl (hb hby d1_21) rfl (own_blt (by decide) rfl hc21_28).2.2.2 kq') ?_
      show OwnGo _ _ _ _ (s₁.setTop (mkF m 24 #[.val (.int cc)] []))
      refine OwnGo.fwd (fun tq' kq' => XS.iloadN X0.here hx rfl (hb hby d1_24) rfl kq') ?_
      show OwnGo _ _ _ _ (s₁.setTop (mkF m 25 #[.val (.int cc)] [(.int cc)]))
      refine OwnGo.fwd (fun tq' kq' => XS.bipush X0.here hx rfl (hb hby d1_25) kq') ?_
      show OwnGo _ _ _ _ (s₁.setTop (mkF m 27 #[.val (.int cc)] [(.int (95 : Int32)), (.int cc)]))
      have hc27_29 : ¬ (cc.toInt = 95) := own_b5 (Int.add_one_le_of_lt hc9_26) (by decide)
      refine OwnGo.fwd (fun tq' kq' => XS.icmpNo X0.here hx rfl (hb hby d1_27) rfl (own_bneq rfl (by decide) hc27_29).1 kq') ?_
      show OwnGo _ _ _ _ (s₁.setTop (mkF m 30 #[.val (.int cc)] []))
      refine OwnGo.fwd (fun tq' kq' => XS.iloadN X0.here hx rfl (hb hby d1_30) rfl kq') ?_
      show OwnGo _ _ _ _ (s₁.setTop (mkF m 31 #[.val (.int cc)] [(.int cc)]))
      refine OwnGo.fwd (fun tq' kq' => XS.sipush X0.here hx rfl (hb hby d1_31) kq') ?_
      show OwnGo _ _ _ _ (s₁.setTop (mkF m 34 #[.val (.int cc)] [(.int (192 : Int32)), (.int cc)]))
      by_cases hc34_30 : cc.toInt < 192
      · refine OwnGo.fwd (fun tq' kq' => XS.icmpYes X0.here hx rfl (pc0 := 34) (pc' := 58) rfl (hb hby d1_34) rfl (own_blt rfl (by decide) hc34_30).1 (by decide) (by decide) kq') ?_
        show OwnGo _ _ _ _ (s₁.setTop (mkF m 58 #[.val (.int cc)] []))
        refine OwnGo.fwd (fun tq' kq' => XS.iloadN X0.here hx rfl (hb hby d1_58) rfl kq') ?_
        show OwnGo _ _ _ _ (s₁.setTop (mkF m 59 #[.val (.int cc)] [(.int cc)]))
        refine OwnGo.fwd (fun tq' kq' => XS.sipush X0.here hx rfl (hb hby d1_59) kq') ?_
        show OwnGo _ _ _ _ (s₁.setTop (mkF m 62 #[.val (.int cc)] [(.int (880 : Int32)), (.int cc)]))
        have hc62_31 : cc.toInt < 880 := own_b1 (Int.le_sub_one_of_lt hc34_30) (by decide)
        refine OwnGo.fwd (fun tq' kq' => XS.icmpYes X0.here hx rfl (pc0 := 62) (pc' := 79) rfl (hb hby d1_62) rfl (own_blt rfl (by decide) hc62_31).1 (by decide) (by decide) kq') ?_
        show OwnGo _ _ _ _ (s₁.setTop (mkF m 79 #[.val (.int cc)] []))
        refine OwnGo.fwd (fun tq' kq' => XS.iloadN X0.here hx rfl (hb hby d1_79) rfl kq') ?_
        show OwnGo _ _ _ _ (s₁.setTop (mkF m 80 #[.val (.int cc)] [(.int cc)]))
        refine OwnGo.fwd (fun tq' kq' => XS.sipush X0.here hx rfl (hb hby d1_80) kq') ?_
        show OwnGo _ _ _ _ (s₁.setTop (mkF m 83 #[.val (.int cc)] [(.int (8204 : Int32)), (.int cc)]))
        have hc83_32 : ¬ (cc.toInt = 8204) := own_b6 (Int.le_sub_one_of_lt hc34_30) (by decide)
        refine OwnGo.fwd (fun tq' kq' => XS.icmpNo X0.here hx rfl (hb hby d1_83) rfl (own_bneq rfl (by decide) hc83_32).1 kq') ?_
        show OwnGo _ _ _ _ (s₁.setTop (mkF m 86 #[.val (.int cc)] []))
        refine OwnGo.fwd (fun tq' kq' => XS.iloadN X0.here hx rfl (hb hby d1_86) rfl kq') ?_
        show OwnGo _ _ _ _ (s₁.setTop (mkF m 87 #[.val (.int cc)] [(.int cc)]))
        refine OwnGo.fwd (fun tq' kq' => XS.sipush X0.here hx rfl (hb hby d1_87) kq') ?_
        show OwnGo _ _ _ _ (s₁.setTop (mkF m 90 #[.val (.int cc)] [(.int (8205 : Int32)), (.int cc)]))
        have hc90_33 : ¬ (cc.toInt = 8205) := own_b6 (Int.le_sub_one_of_lt hc34_30) (by decide)
        refine OwnGo.fwd (fun tq' kq' => XS.icmpNo X0.here hx rfl (hb hby d1_90) rfl (own_bneq rfl (by decide) hc90_33).1 kq') ?_
        show OwnGo _ _ _ _ (s₁.setTop (mkF m 93 #[.val (.int cc)] []))
        refine OwnGo.fwd (fun tq' kq' => XS.iloadN X0.here hx rfl (hb hby d1_93) rfl kq') ?_
        show OwnGo _ _ _ _ (s₁.setTop (mkF m 94 #[.val (.int cc)] [(.int cc)]))
        refine OwnGo.fwd (fun tq' kq' => XS.sipush X0.here hx rfl (hb hby d1_94) kq') ?_
        show OwnGo _ _ _ _ (s₁.setTop (mkF m 97 #[.val (.int cc)] [(.int (8304 : Int32)), (.int cc)]))
        have hc97_34 : cc.toInt < 8304 := own_b1 (Int.le_sub_one_of_lt hc34_30) (by decide)
        refine OwnGo.fwd (fun tq' kq' => XS.icmpYes X0.here hx rfl (pc0 := 97) (pc' := 107) rfl (hb hby d1_97) rfl (own_blt rfl (by decide) hc97_34).1 (by decide) (by decide) kq') ?_
        show OwnGo _ _ _ _ (s₁.setTop (mkF m 107 #[.val (.int cc)] []))
        refine OwnGo.fwd (fun tq' kq' => XS.iloadN X0.here hx rfl (hb hby d1_107) rfl kq') ?_
        show OwnGo _ _ _ _ (s₁.setTop (mkF m 108 #[.val (.int cc)] [(.int cc)]))
        refine OwnGo.fwd (fun tq' kq' => XS.sipush X0.here hx rfl (hb hby d1_108) kq') ?_
        show OwnGo _ _ _ _ (s₁.setTop (mkF m 111 #[.val (.int cc)] [(.int (11264 : Int32)), (.int cc)]))
        have hc111_35 : cc.toInt < 11264 := own_b1 (Int.le_sub_one_of_lt hc34_30) (by decide)
        refine OwnGo.fwd (fun tq' kq' => XS.icmpYes X0.here hx rfl (pc0 := 111) (pc' := 121) rfl (hb hby d1_111) rfl (own_blt rfl (by decide) hc111_35).1 (by decide) (by decide) kq') ?_
        show OwnGo _ _ _ _ (s₁.setTop (mkF m 121 #[.val (.int cc)] []))
        refine OwnGo.fwd (fun tq' kq' => XS.iloadN X0.here hx rfl (hb hby d1_121) rfl kq') ?_
        show OwnGo _ _ _ _ (s₁.setTop (mkF m 122 #[.val (.int cc)] [(.int cc)]))
        refine OwnGo.fwd (fun tq' kq' => XS.sipush X0.here hx rfl (hb hby d1_122) kq') ?_
        show OwnGo _ _ _ _ (s₁.setTop (mkF m 125 #[.val (.int cc)] [(.int (12289 : Int32)), (.int cc)]))
        have hc125_36 : cc.toInt < 12289 := own_b1 (Int.le_sub_one_of_lt hc34_30) (by decide)
        refine OwnGo.fwd (fun tq' kq' => XS.icmpYes X0.here hx rfl (pc0 := 125) (pc' := 134) rfl (hb hby d1_125) rfl (own_blt rfl (by decide) hc125_36).1 (by decide) (by decide) kq') ?_
        show OwnGo _ _ _ _ (s₁.setTop (mkF m 134 #[.val (.int cc)] []))
        refine OwnGo.fwd (fun tq' kq' => XS.iloadN X0.here hx rfl (hb hby d1_134) rfl kq') ?_
        show OwnGo _ _ _ _ (s₁.setTop (mkF m 135 #[.val (.int cc)] [(.int cc)]))
        refine OwnGo.fwd (fun tq' kq' => X0.ldcInt hx hown (mvT hZ (hw _ (List.mem_of_getElem? (i := 14) rfl))) (g := (mkF m 135 #[.val (.int cc)] [(.int cc)])) rfl (hb hby d1_135) tq' kq') ?_
        show OwnGo _ _ _ _ (s₁.setTop (mkF m 137 #[.val (.int cc)] [(.int (63744 : Int32)), (.int cc)]))
        have hc137_37 : cc.toInt < 63744 := own_b1 (Int.le_sub_one_of_lt hc34_30) (by decide)
        refine OwnGo.fwd (fun tq' kq' => XS.icmpYes X0.here hx rfl (pc0 := 137) (pc' := 146) rfl (hb hby d1_137) rfl (own_blt rfl (by decide) hc137_37).1 (by decide) (by decide) kq') ?_
        show OwnGo _ _ _ _ (s₁.setTop (mkF m 146 #[.val (.int cc)] []))
        refine OwnGo.fwd (fun tq' kq' => XS.iloadN X0.here hx rfl (hb hby d1_146) rfl kq') ?_
        show OwnGo _ _ _ _ (s₁.setTop (mkF m 147 #[.val (.int cc)] [(.int cc)]))
        refine OwnGo.fwd (fun tq' kq' => X0.ldcInt hx hown (mvT hZ (hw _ (List.mem_of_getElem? (i := 15) rfl))) (g := (mkF m 147 #[.val (.int cc)] [(.int cc)])) rfl (hb hby d1_147) tq' kq') ?_
        show OwnGo _ _ _ _ (s₁.setTop (mkF m 149 #[.val (.int cc)] [(.int (65008 : Int32)), (.int cc)]))
        have hc149_38 : cc.toInt < 65008 := own_b1 (Int.le_sub_one_of_lt hc34_30) (by decide)
        refine OwnGo.fwd (fun tq' kq' => XS.icmpYes X0.here hx rfl (pc0 := 149) (pc' := 158) rfl (hb hby d1_149) rfl (own_blt rfl (by decide) hc149_38).1 (by decide) (by decide) kq') ?_
        show OwnGo _ _ _ _ (s₁.setTop (mkF m 158 #[.val (.int cc)] []))
        refine OwnGo.fwd (fun tq' kq' => XS.iloadN X0.here hx rfl (hb hby d1_158) rfl kq') ?_
        show OwnGo _ _ _ _ (s₁.setTop (mkF m 159 #[.val (.int cc)] [(.int cc)]))
        refine OwnGo.fwd (fun tq' kq' => X0.ldcInt hx hown (mvT hZ (hw _ (List.mem_of_getElem? (i := 16) rfl))) (g := (mkF m 159 #[.val (.int cc)] [(.int cc)])) rfl (hb hby d1_159) tq' kq') ?_
        show OwnGo _ _ _ _ (s₁.setTop (mkF m 161 #[.val (.int cc)] [(.int (65536 : Int32)), (.int cc)]))
        have hc161_39 : cc.toInt < 65536 := own_b1 (Int.le_sub_one_of_lt hc34_30) (by decide)
        refine OwnGo.fwd (fun tq' kq' => XS.icmpYes X0.here hx rfl (pc0 := 161) (pc' := 174) rfl (hb hby d1_161) rfl (own_blt rfl (by decide) hc161_39).1 (by decide) (by decide) kq') ?_
        show OwnGo _ _ _ _ (s₁.setTop (mkF m 174 #[.val (.int cc)] []))
        refine OwnGo.fwd (fun tq' kq' => XS.iconst X0.here hx rfl (hb hby d1_174) kq') ?_
        show OwnGo _ _ _ _ (s₁.setTop (mkF m 175 #[.val (.int cc)] [(.int (0 : Int32))]))
        exact own_retZ X0 hlk hx Bd.returns (hb hby d1_175) (by decide) (by decide) e0 ⟨by rw [own_nc0 (own_out3 (by omega) (by omega))]; rfl, N, rfl⟩
      · refine OwnGo.fwd (fun tq' kq' => XS.icmpNo X0.here hx rfl (hb hby d1_34) rfl (own_bnlt rfl (by decide) hc34_30).1 kq') ?_
        show OwnGo _ _ _ _ (s₁.setTop (mkF m 37 #[.val (.int cc)] []))
        refine OwnGo.fwd (fun tq' kq' => XS.iloadN X0.here hx rfl (hb hby d1_37) rfl kq') ?_
        show OwnGo _ _ _ _ (s₁.setTop (mkF m 38 #[.val (.int cc)] [(.int cc)]))
        refine OwnGo.fwd (fun tq' kq' => XS.sipush X0.here hx rfl (hb hby d1_38) kq') ?_
        show OwnGo _ _ _ _ (s₁.setTop (mkF m 41 #[.val (.int cc)] [(.int (767 : Int32)), (.int cc)]))
        by_cases hc41_40 : 767 < cc.toInt
        · refine OwnGo.fwd (fun tq' kq' => XS.icmpYes X0.here hx rfl (pc0 := 41) (pc' := 58) rfl (hb hby d1_41) rfl (own_blt (by decide) rfl hc41_40).2.2.1 (by decide) (by decide) kq') ?_
          show OwnGo _ _ _ _ (s₁.setTop (mkF m 58 #[.val (.int cc)] []))
          refine OwnGo.fwd (fun tq' kq' => XS.iloadN X0.here hx rfl (hb hby d1_58) rfl kq') ?_
          show OwnGo _ _ _ _ (s₁.setTop (mkF m 59 #[.val (.int cc)] [(.int cc)]))
          refine OwnGo.fwd (fun tq' kq' => XS.sipush X0.here hx rfl (hb hby d1_59) kq') ?_
          show OwnGo _ _ _ _ (s₁.setTop (mkF m 62 #[.val (.int cc)] [(.int (880 : Int32)), (.int cc)]))
          by_cases hc62_41 : cc.toInt < 880
          · refine OwnGo.fwd (fun tq' kq' => XS.icmpYes X0.here hx rfl (pc0 := 62) (pc' := 79) rfl (hb hby d1_62) rfl (own_blt rfl (by decide) hc62_41).1 (by decide) (by decide) kq') ?_
            show OwnGo _ _ _ _ (s₁.setTop (mkF m 79 #[.val (.int cc)] []))
            refine OwnGo.fwd (fun tq' kq' => XS.iloadN X0.here hx rfl (hb hby d1_79) rfl kq') ?_
            show OwnGo _ _ _ _ (s₁.setTop (mkF m 80 #[.val (.int cc)] [(.int cc)]))
            refine OwnGo.fwd (fun tq' kq' => XS.sipush X0.here hx rfl (hb hby d1_80) kq') ?_
            show OwnGo _ _ _ _ (s₁.setTop (mkF m 83 #[.val (.int cc)] [(.int (8204 : Int32)), (.int cc)]))
            have hc83_42 : ¬ (cc.toInt = 8204) := own_b6 (Int.le_sub_one_of_lt hc62_41) (by decide)
            refine OwnGo.fwd (fun tq' kq' => XS.icmpNo X0.here hx rfl (hb hby d1_83) rfl (own_bneq rfl (by decide) hc83_42).1 kq') ?_
            show OwnGo _ _ _ _ (s₁.setTop (mkF m 86 #[.val (.int cc)] []))
            refine OwnGo.fwd (fun tq' kq' => XS.iloadN X0.here hx rfl (hb hby d1_86) rfl kq') ?_
            show OwnGo _ _ _ _ (s₁.setTop (mkF m 87 #[.val (.int cc)] [(.int cc)]))
            refine OwnGo.fwd (fun tq' kq' => XS.sipush X0.here hx rfl (hb hby d1_87) kq') ?_
            show OwnGo _ _ _ _ (s₁.setTop (mkF m 90 #[.val (.int cc)] [(.int (8205 : Int32)), (.int cc)]))
            have hc90_43 : ¬ (cc.toInt = 8205) := own_b6 (Int.le_sub_one_of_lt hc62_41) (by decide)
            refine OwnGo.fwd (fun tq' kq' => XS.icmpNo X0.here hx rfl (hb hby d1_90) rfl (own_bneq rfl (by decide) hc90_43).1 kq') ?_
            show OwnGo _ _ _ _ (s₁.setTop (mkF m 93 #[.val (.int cc)] []))
            refine OwnGo.fwd (fun tq' kq' => XS.iloadN X0.here hx rfl (hb hby d1_93) rfl kq') ?_
            show OwnGo _ _ _ _ (s₁.setTop (mkF m 94 #[.val (.int cc)] [(.int cc)]))
            refine OwnGo.fwd (fun tq' kq' => XS.sipush X0.here hx rfl (hb hby d1_94) kq') ?_
            show OwnGo _ _ _ _ (s₁.setTop (mkF m 97 #[.val (.int cc)] [(.int (8304 : Int32)), (.int cc)]))
            have hc97_44 : cc.toInt < 8304 := own_b1 (Int.le_sub_one_of_lt hc62_41) (by decide)
            refine OwnGo.fwd (fun tq' kq' => XS.icmpYes X0.here hx rfl (pc0 := 97) (pc' := 107) rfl (hb hby d1_97) rfl (own_blt rfl (by decide) hc97_44).1 (by decide) (by decide) kq') ?_
            show OwnGo _ _ _ _ (s₁.setTop (mkF m 107 #[.val (.int cc)] []))
            refine OwnGo.fwd (fun tq' kq' => XS.iloadN X0.here hx rfl (hb hby d1_107) rfl kq') ?_
            show OwnGo _ _ _ _ (s₁.setTop (mkF m 108 #[.val (.int cc)] [(.int cc)]))
            refine OwnGo.fwd (fun tq' kq' => XS.sipush X0.here hx rfl (hb hby d1_108) kq') ?_
            show OwnGo _ _ _ _ (s₁.setTop (mkF m 111 #[.val (.int cc)] [(.int (11264 : Int32)), (.int cc)]))
            have hc111_45 : cc.toInt < 11264 := own_b1 (Int.le_sub_one_of_lt hc62_41) (by decide)
            refine OwnGo.fwd (fun tq' kq' => XS.icmpYes X0.here hx rfl (pc0 := 111) (pc' := 121) rfl (hb hby d1_111) rfl (own_blt rfl (by decide) hc111_45).1 (by decide) (by decide) kq') ?_
            show OwnGo _ _ _ _ (s₁.setTop (mkF m 121 #[.val (.int cc)] []))
            refine OwnGo.fwd (fun tq' kq' => XS.iloadN X0.here hx rfl (hb hby d1_121) rfl kq') ?_
            show OwnGo _ _ _ _ (s₁.setTop (mkF m 122 #[.val (.int cc)] [(.int cc)]))
            refine OwnGo.fwd (fun tq' kq' => XS.sipush X0.here hx rfl (hb hby d1_122) kq') ?_
            show OwnGo _ _ _ _ (s₁.setTop (mkF m 125 #[.val (.int cc)] [(.int (12289 : Int32)), (.int cc)]))
            have hc125_46 : cc.toInt < 12289 := own_b1 (Int.le_sub_one_of_lt hc62_41) (by decide)
            refine OwnGo.fwd (fun tq' kq' => XS.icmpYes X0.here hx rfl (pc0 := 125) (pc' := 134) rfl (hb hby d1_125) rfl (own_blt rfl (by decide) hc125_46).1 (by decide) (by decide) kq') ?_
            show OwnGo _ _ _ _ (s₁.setTop (mkF m 134 #[.val (.int cc)] []))
            refine OwnGo.fwd (fun tq' kq' => XS.iloadN X0.here hx rfl (hb hby d1_134) rfl kq') ?_
            show OwnGo _ _ _ _ (s₁.setTop (mkF m 135 #[.val (.int cc)] [(.int cc)]))
            refine OwnGo.fwd (fun tq' kq' => X0.ldcInt hx hown (mvT hZ (hw _ (List.mem_of_getElem? (i := 14) rfl))) (g := (mkF m 135 #[.val (.int cc)] [(.int cc)])) rfl (hb hby d1_135) tq' kq') ?_
            show OwnGo _ _ _ _ (s₁.setTop (mkF m 137 #[.val (.int cc)] [(.int (63744 : Int32)), (.int cc)]))
            have hc137_47 : cc.toInt < 63744 := own_b1 (Int.le_sub_one_of_lt hc62_41) (by decide)
            refine OwnGo.fwd (fun tq' kq' => XS.icmpYes X0.here hx rfl (pc0 := 137) (pc' := 146) rfl (hb hby d1_137) rfl (own_blt rfl (by decide) hc137_47).1 (by decide) (by decide) kq') ?_
            show OwnGo _ _ _ _ (s₁.setTop (mkF m 146 #[.val (.int cc)] []))
            refine OwnGo.fwd (fun tq' kq' => XS.iloadN X0.here hx rfl (hb hby d1_146) rfl kq') ?_
            show OwnGo _ _ _ _ (s₁.setTop (mkF m 147 #[.val (.int cc)] [(.int cc)]))
            refine OwnGo.fwd (fun tq' kq' => X0.ldcInt hx hown (mvT hZ (hw _ (List.mem_of_getElem? (i := 15) rfl))) (g := (mkF m 147 #[.val (.int cc)] [(.int cc)])) rfl (hb hby d1_147) tq' kq') ?_
            show OwnGo _ _ _ _ (s₁.setTop (mkF m 149 #[.val (.int cc)] [(.int (65008 : Int32)), (.int cc)]))
            have hc149_48 : cc.toInt < 65008 := own_b1 (Int.le_sub_one_of_lt hc62_41) (by decide)
            refine OwnGo.fwd (fun tq' kq' => XS.icmpYes X0.here hx rfl (pc0 := 149) (pc' := 158) rfl (hb hby d1_149) rfl (own_blt rfl (by decide) hc149_48).1 (by decide) (by decide) kq') ?_
            show OwnGo _ _ _ _ (s₁.setTop (mkF m 158 #[.val (.int cc)] []))
            refine OwnGo.fwd (fun tq' kq' => XS.iloadN X0.here hx rfl (hb hby d1_158) rfl kq') ?_
            show OwnGo _ _ _ _ (s₁.setTop (mkF m 159 #[.val (.int cc)] [(.int cc)]))
            refine OwnGo.fwd (fun tq' kq' => X0.ldcInt hx hown (mvT hZ (hw _ (List.mem_of_getElem? (i := 16) rfl))) (g := (mkF m 159 #[.val (.int cc)] [(.int cc)])) rfl (hb hby d1_159) tq' kq') ?_
            show OwnGo _ _ _ _ (s₁.setTop (mkF m 161 #[.val (.int cc)] [(.int (65536 : Int32)), (.int cc)]))
            have hc161_49 : cc.toInt < 65536 := own_b1 (Int.le_sub_one_of_lt hc62_41) (by decide)
            refine OwnGo.fwd (fun tq' kq' => XS.icmpYes X0.here hx rfl (pc0 := 161) (pc' := 174) rfl (hb hby d1_161) rfl (own_blt rfl (by decide) hc161_49).1 (by decide) (by decide) kq') ?_
            show OwnGo _ _ _ _ (s₁.setTop (mkF m 174 #[.val (.int cc)] []))
            refine OwnGo.fwd (fun tq' kq' => XS.iconst X0.here hx rfl (hb hby d1_174) kq') ?_
            show OwnGo _ _ _ _ (s₁.setTop (mkF m 175 #[.val (.int cc)] [(.int (0 : Int32))]))
            exact own_retZ X0 hlk hx Bd.returns (hb hby d1_175) (by decide) (by decide) e0 ⟨by rw [own_nc0 (own_out6 (by omega) (by omega))]; rfl, N, rfl⟩
          · refine OwnGo.fwd (fun tq' kq' => XS.icmpNo X0.here hx rfl (hb hby d1_62) rfl (own_bnlt rfl (by decide) hc62_41).1 kq') ?_
            show OwnGo _ _ _ _ (s₁.setTop (mkF m 65 #[.val (.int cc)] []))
            refine OwnGo.fwd (fun tq' kq' => XS.iloadN X0.here hx rfl (hb hby d1_65) rfl kq') ?_
            show OwnGo _ _ _ _ (s₁.setTop (mkF m 66 #[.val (.int cc)] [(.int cc)]))
            refine OwnGo.fwd (fun tq' kq' => XS.sipush X0.here hx rfl (hb hby d1_66) kq') ?_
            show OwnGo _ _ _ _ (s₁.setTop (mkF m 69 #[.val (.int cc)] [(.int (8191 : Int32)), (.int cc)]))
            by_cases hc69_50 : 8191 < cc.toInt
            · refine OwnGo.fwd (fun tq' kq' => XS.icmpYes X0.here hx rfl (pc0 := 69) (pc' := 79) rfl (hb hby d1_69) rfl (own_blt (by decide) rfl hc69_50).2.2.1 (by decide) (by decide) kq') ?_
              show OwnGo _ _ _ _ (s₁.setTop (mkF m 79 #[.val (.int cc)] []))
              refine OwnGo.fwd (fun tq' kq' => XS.iloadN X0.here hx rfl (hb hby d1_79) rfl kq') ?_
              show OwnGo _ _ _ _ (s₁.setTop (mkF m 80 #[.val (.int cc)] [(.int cc)]))
              refine OwnGo.fwd (fun tq' kq' => XS.sipush X0.here hx rfl (hb hby d1_80) kq') ?_
              show OwnGo _ _ _ _ (s₁.setTop (mkF m 83 #[.val (.int cc)] [(.int (8204 : Int32)), (.int cc)]))
              by_cases hc83_51 : cc.toInt = 8204
              · refine OwnGo.fwd (fun tq' kq' => XS.icmpYes X0.here hx rfl (pc0 := 83) (pc' := 170) rfl (hb hby d1_83) rfl (own_beq rfl (by decide) hc83_51).1 (by decide) (by decide) kq') ?_
                show OwnGo _ _ _ _ (s₁.setTop (mkF m 170 #[.val (.int cc)] []))
                refine OwnGo.fwd (fun tq' kq' => XS.iconst X0.here hx rfl (hb hby d1_170) kq') ?_
                show OwnGo _ _ _ _ (s₁.setTop (mkF m 171 #[.val (.int cc)] [(.int (1 : Int32))]))
                refine OwnGo.fwd (fun tq' kq' => XS.goto X0.here hx rfl (pc0 := 171) (pc' := 175) rfl (hb hby d1_171) (by decide) (by decide) kq') ?_
                show OwnGo _ _ _ _ (s₁.setTop (mkF m 175 #[.val (.int cc)] [(.int (1 : Int32))]))
                exact own_retZ X0 hlk hx Bd.returns (hb hby d1_175) (by decide) (by decide) e0 ⟨by rw [own_nc1 (own_in8 (by omega) (by omega))]; rfl, N, rfl⟩
              · refine OwnGo.fwd (fun tq' kq' => XS.icmpNo X0.here hx rfl (hb hby d1_83) rfl (own_bneq rfl (by decide) hc83_51).1 kq') ?_
                show OwnGo _ _ _ _ (s₁.setTop (mkF m 86 #[.val (.int cc)] []))
                refine OwnGo.fwd (fun tq' kq' => XS.iloadN X0.here hx rfl (hb hby d1_86) rfl kq') ?_
                show OwnGo _ _ _ _ (s₁.setTop (mkF m 87 #[.val (.int cc)] [(.int cc)]))
                refine OwnGo.fwd (fun tq' kq' => XS.sipush X0.here hx rfl (hb hby d1_87) kq') ?_
                show OwnGo _ _ _ _ (s₁.setTop (mkF m 90 #[.val (.int cc)] [(.int (8205 : Int32)), (.int cc)]))
                by_cases hc90_52 : cc.toInt = 8205
                · refine OwnGo.fwd (fun tq' kq' => XS.icmpYes X0.here hx rfl (pc0 := 90) (pc' := 170) rfl (hb hby d1_90) rfl (own_beq rfl (by decide) hc90_52).1 (by decide) (by decide) kq') ?_
                  show OwnGo _ _ _ _ (s₁.setTop (mkF m 170 #[.val (.int cc)] []))
                  refine OwnGo.fwd (fun tq' kq' => XS.iconst X0.here hx rfl (hb hby d1_170) kq') ?_
                  show OwnGo _ _ _ _ (s₁.setTop (mkF m 171 #[.val (.int cc)] [(.int (1 : Int32))]))
                  refine OwnGo.fwd (fun tq' kq' => XS.goto X0.here hx rfl (pc0 := 171) (pc' := 175) rfl (hb hby d1_171) (by decide) (by decide) kq') ?_
                  show OwnGo _ _ _ _ (s₁.setTop (mkF m 175 #[.val (.int cc)] [(.int (1 : Int32))]))
                  exact own_retZ X0 hlk hx Bd.returns (hb hby d1_175) (by decide) (by decide) e0 ⟨by rw [own_nc1 (own_in8 (by omega) (by omega))]; rfl, N, rfl⟩
                · refine OwnGo.fwd (fun tq' kq' => XS.icmpNo X0.here hx rfl (hb hby d1_90) rfl (own_bneq rfl (by decide) hc90_52).1 kq') ?_
                  show OwnGo _ _ _ _ (s₁.setTop (mkF m 93 #[.val (.int cc)] []))
                  refine OwnGo.fwd (fun tq' kq' => XS.iloadN X0.here hx rfl (hb hby d1_93) rfl kq') ?_
                  show OwnGo _ _ _ _ (s₁.setTop (mkF m 94 #[.val (.int cc)] [(.int cc)]))
                  refine OwnGo.fwd (fun tq' kq' => XS.sipush X0.here hx rfl (hb hby d1_94) kq') ?_
                  show OwnGo _ _ _ _ (s₁.setTop (mkF m 97 #[.val (.int cc)] [(.int (8304 : Int32)), (.int cc)]))
                  by_cases hc97_53 : cc.toInt < 8304
                  · refine OwnGo.fwd (fun tq' kq' => XS.icmpYes X0.here hx rfl (pc0 := 97) (pc' := 107) rfl (hb hby d1_97) rfl (own_blt rfl (by decide) hc97_53).1 (by decide) (by decide) kq') ?_
                    show OwnGo _ _ _ _ (s₁.setTop (mkF m 107 #[.val (.int cc)] []))
                    refine OwnGo.fwd (fun tq' kq' => XS.iloadN X0.here hx rfl (hb hby d1_107) rfl kq') ?_
                    show OwnGo _ _ _ _ (s₁.setTop (mkF m 108 #[.val (.int cc)] [(.int cc)]))
                    refine OwnGo.fwd (fun tq' kq' => XS.sipush X0.here hx rfl (hb hby d1_108) kq') ?_
                    show OwnGo _ _ _ _ (s₁.setTop (mkF m 111 #[.val (.int cc)] [(.int (11264 : Int32)), (.int cc)]))
                    have hc111_54 : cc.toInt < 11264 := own_b1 (Int.le_sub_one_of_lt hc97_53) (by decide)
                    refine OwnGo.fwd (fun tq' kq' => XS.icmpYes X0.here hx rfl (pc0 := 111) (pc' := 121) rfl (hb hby d1_111) rfl (own_blt rfl (by decide) hc111_54).1 (by decide) (by decide) kq') ?_
                    show OwnGo _ _ _ _ (s₁.setTop (mkF m 121 #[.val (.int cc)] []))
                    refine OwnGo.fwd (fun tq' kq' => XS.iloadN X0.here hx rfl (hb hby d1_121) rfl kq') ?_
                    show OwnGo _ _ _ _ (s₁.setTop (mkF m 122 #[.val (.int cc)] [(.int cc)]))
                    refine OwnGo.fwd (fun tq' kq' => XS.sipush X0.here hx rfl (hb hby d1_122) kq') ?_
                    show OwnGo _ _ _ _ (s₁.setTop (mkF m 125 #[.val (.int cc)] [(.int (12289 : Int32)), (.int cc)]))
                    have hc125_55 : cc.toInt < 12289 := own_b1 (Int.le_sub_one_of_lt hc97_53) (by decide)
                    refine OwnGo.fwd (fun tq' kq' => XS.icmpYes X0.here hx rfl (pc0 := 125) (pc' := 134) rfl (hb hby d1_125) rfl (own_blt rfl (by decide) hc125_55).1 (by decide) (by decide) kq') ?_
                    show OwnGo _ _ _ _ (s₁.setTop (mkF m 134 #[.val (.int cc)] []))
                    refine OwnGo.fwd (fun tq' kq' => XS.iloadN X0.here hx rfl (hb hby d1_134) rfl kq') ?_
                    show OwnGo _ _ _ _ (s₁.setTop (mkF m 135 #[.val (.int cc)] [(.int cc)]))
                    refine OwnGo.fwd (fun tq' kq' => X0.ldcInt hx hown (mvT hZ (hw _ (List.mem_of_getElem? (i := 14) rfl))) (g := (mkF m 135 #[.val (.int cc)] [(.int cc)])) rfl (hb hby d1_135) tq' kq') ?_
                    show OwnGo _ _ _ _ (s₁.setTop (mkF m 137 #[.val (.int cc)] [(.int (63744 : Int32)), (.int cc)]))
                    have hc137_56 : cc.toInt < 63744 := own_b1 (Int.le_sub_one_of_lt hc97_53) (by decide)
                    refine OwnGo.fwd (fun tq' kq' => XS.icmpYes X0.here hx rfl (pc0 := 137) (pc' := 146) rfl (hb hby d1_137) rfl (own_blt rfl (by decide) hc137_56).1 (by decide) (by decide) kq') ?_
                    show OwnGo _ _ _ _ (s₁.setTop (mkF m 146 #[.val (.int cc)] []))
                    refine OwnGo.fwd (fun tq' kq' => XS.iloadN X0.here hx rfl (hb hby d1_146) rfl kq') ?_
                    show OwnGo _ _ _ _ (s₁.setTop (mkF m 147 #[.val (.int cc)] [(.int cc)]))
                    refine OwnGo.fwd (fun tq' kq' => X0.ldcInt hx hown (mvT hZ (hw _ (List.mem_of_getElem? (i := 15) rfl))) (g := (mkF m 147 #[.val (.int cc)] [(.int cc)])) rfl (hb hby d1_147) tq' kq') ?_
                    show OwnGo _ _ _ _ (s₁.setTop (mkF m 149 #[.val (.int cc)] [(.int (65008 : Int32)), (.int cc)]))
                    have hc149_57 : cc.toInt < 65008 := own_b1 (Int.le_sub_one_of_lt hc97_53) (by decide)
                    refine OwnGo.fwd (fun tq' kq' => XS.icmpYes X0.here hx rfl (pc0 := 149) (pc' := 158) rfl (hb hby d1_149) rfl (own_blt rfl (by decide) hc149_57).1 (by decide) (by decide) kq') ?_
                    show OwnGo _ _ _ _ (s₁.setTop (mkF m 158 #[.val (.int cc)] []))
                    refine OwnGo.fwd (fun tq' kq' => XS.iloadN X0.here hx rfl (hb hby d1_158) rfl kq') ?_
                    show OwnGo _ _ _ _ (s₁.setTop (mkF m 159 #[.val (.int cc)] [(.int cc)]))
                    refine OwnGo.fwd (fun tq' kq' => X0.ldcInt hx hown (mvT hZ (hw _ (List.mem_of_getElem? (i := 16) rfl))) (g := (mkF m 159 #[.val (.int cc)] [(.int cc)])) rfl (hb hby d1_159) tq' kq') ?_
                    show OwnGo _ _ _ _ (s₁.setTop (mkF m 161 #[.val (.int cc)] [(.int (65536 : Int32)), (.int cc)]))
                    have hc161_58 : cc.toInt < 65536 := own_b1 (Int.le_sub_one_of_lt hc97_53) (by decide)
                    refine OwnGo.fwd (fun tq' kq' => XS.icmpYes X0.here hx rfl (pc0 := 161) (pc' := 174) rfl (hb hby d1_161) rfl (own_blt rfl (by decide) hc161_58).1 (by decide) (by decide) kq') ?_
                    show OwnGo _ _ _ _ (s₁.setTop (mkF m 174 #[.val (.int cc)] []))
                    refine OwnGo.fwd (fun tq' kq' => XS.iconst X0.here hx rfl (hb hby d1_174) kq') ?_
                    show OwnGo _ _ _ _ (s₁.setTop (mkF m 175 #[.val (.int cc)] [(.int (0 : Int32))]))
                    exact own_retZ X0 hlk hx Bd.returns (hb hby d1_175) (by decide) (by decide) e0 ⟨by rw [own_nc0 (if hq : cc.toInt < 8204 then (own_out8 (by omega) (by omega)) else (own_out9 (by omega) (by omega)))]; rfl, N, rfl⟩
                  · refine OwnGo.fwd (fun tq' kq' => XS.icmpNo X0.here hx rfl (hb hby d1_97) rfl (own_bnlt rfl (by decide) hc97_53).1 kq') ?_
                    show OwnGo _ _ _ _ (s₁.setTop (mkF m 100 #[.val (.int cc)] []))
                    refine OwnGo.fwd (fun tq' kq' => XS.iloadN X0.here hx rfl (hb hby d1_100) rfl kq') ?_
                    show OwnGo _ _ _ _ (s₁.setTop (mkF m 101 #[.val (.int cc)] [(.int cc)]))
                    refine OwnGo.fwd (fun tq' kq' => XS.sipush X0.here hx rfl (hb hby d1_101) kq') ?_
                    show OwnGo _ _ _ _ (s₁.setTop (mkF m 104 #[.val (.int cc)] [(.int (8591 : Int32)), (.int cc)]))
                    by_cases hc104_59 : 8591 < cc.toInt
                    · refine OwnGo.fwd (fun tq' kq' => XS.icmpNo X0.here hx rfl (hb hby d1_104) rfl (own_blt (by decide) rfl hc104_59).2.2.2 kq') ?_
                      show OwnGo _ _ _ _ (s₁.setTop (mkF m 107 #[.val (.int cc)] []))
                      refine OwnGo.fwd (fun tq' kq' => XS.iloadN X0.here hx rfl (hb hby d1_107) rfl kq') ?_
                      show OwnGo _ _ _ _ (s₁.setTop (mkF m 108 #[.val (.int cc)] [(.int cc)]))
                      refine OwnGo.fwd (fun tq' kq' => XS.sipush X0.here hx rfl (hb hby d1_108) kq') ?_
                      show OwnGo _ _ _ _ (s₁.setTop (mkF m 111 #[.val (.int cc)] [(.int (11264 : Int32)), (.int cc)]))
                      by_cases hc111_60 : cc.toInt < 11264
                      · refine OwnGo.fwd (fun tq' kq' => XS.icmpYes X0.here hx rfl (pc0 := 111) (pc' := 121) rfl (hb hby d1_111) rfl (own_blt rfl (by decide) hc111_60).1 (by decide) (by decide) kq') ?_
                        show OwnGo _ _ _ _ (s₁.setTop (mkF m 121 #[.val (.int cc)] []))
                        refine OwnGo.fwd (fun tq' kq' => XS.iloadN X0.here hx rfl (hb hby d1_121) rfl kq') ?_
                        show OwnGo _ _ _ _ (s₁.setTop (mkF m 122 #[.val (.int cc)] [(.int cc)]))
                        refine OwnGo.fwd (fun tq' kq' => XS.sipush X0.here hx rfl (hb hby d1_122) kq') ?_
                        show OwnGo _ _ _ _ (s₁.setTop (mkF m 125 #[.val (.int cc)] [(.int (12289 : Int32)), (.int cc)]))
                        have hc125_61 : cc.toInt < 12289 := own_b1 (Int.le_sub_one_of_lt hc111_60) (by decide)
                        refine OwnGo.fwd (fun tq' kq' => XS.icmpYes X0.here hx rfl (pc0 := 125) (pc' := 134) rfl (hb hby d1_125) rfl (own_blt rfl (by decide) hc125_61).1 (by decide) (by decide) kq') ?_
                        show OwnGo _ _ _ _ (s₁.setTop (mkF m 134 #[.val (.int cc)] []))
                        refine OwnGo.fwd (fun tq' kq' => XS.iloadN X0.here hx rfl (hb hby d1_134) rfl kq') ?_
                        show OwnGo _ _ _ _ (s₁.setTop (mkF m 135 #[.val (.int cc)] [(.int cc)]))
                        refine OwnGo.fwd (fun tq' kq' => X0.ldcInt hx hown (mvT hZ (hw _ (List.mem_of_getElem? (i := 14) rfl))) (g := (mkF m 135 #[.val (.int cc)] [(.int cc)])) rfl (hb hby d1_135) tq' kq') ?_
                        show OwnGo _ _ _ _ (s₁.setTop (mkF m 137 #[.val (.int cc)] [(.int (63744 : Int32)), (.int cc)]))
                        have hc137_62 : cc.toInt < 63744 := own_b1 (Int.le_sub_one_of_lt hc111_60) (by decide)
                        refine OwnGo.fwd (fun tq' kq' => XS.icmpYes X0.here hx rfl (pc0 := 137) (pc' := 146) rfl (hb hby d1_137) rfl (own_blt rfl (by decide) hc137_62).1 (by decide) (by decide) kq') ?_
                        show OwnGo _ _ _ _ (s₁.setTop (mkF m 146 #[.val (.int cc)] []))
                        refine OwnGo.fwd (fun tq' kq' => XS.iloadN X0.here hx rfl (hb hby d1_146) rfl kq') ?_
                        show OwnGo _ _ _ _ (s₁.setTop (mkF m 147 #[.val (.int cc)] [(.int cc)]))
                        refine OwnGo.fwd (fun tq' kq' => X0.ldcInt hx hown (mvT hZ (hw _ (List.mem_of_getElem? (i := 15) rfl))) (g := (mkF m 147 #[.val (.int cc)] [(.int cc)])) rfl (hb hby d1_147) tq' kq') ?_
                        show OwnGo _ _ _ _ (s₁.setTop (mkF m 149 #[.val (.int cc)] [(.int (65008 : Int32)), (.int cc)]))
                        have hc149_63 : cc.toInt < 65008 := own_b1 (Int.le_sub_one_of_lt hc111_60) (by decide)
                        refine OwnGo.fwd (fun tq' kq' => XS.icmpYes X0.here hx rfl (pc0 := 149) (pc' := 158) rfl (hb hby d1_149) rfl (own_blt rfl (by decide) hc149_63).1 (by decide) (by decide) kq') ?_
                        show OwnGo _ _ _ _ (s₁.setTop (mkF m 158 #[.val (.int cc)] []))
                        refine OwnGo.fwd (fun tq' kq' => XS.iloadN X0.here hx rfl (hb hby d1_158) rfl kq') ?_
                        show OwnGo _ _ _ _ (s₁.setTop (mkF m 159 #[.val (.int cc)] [(.int cc)]))
                        refine OwnGo.fwd (fun tq' kq' => X0.ldcInt hx hown (mvT hZ (hw _ (List.mem_of_getElem? (i := 16) rfl))) (g := (mkF m 159 #[.val (.int cc)] [(.int cc)])) rfl (hb hby d1_159) tq' kq') ?_
                        show OwnGo _ _ _ _ (s₁.setTop (mkF m 161 #[.val (.int cc)] [(.int (65536 : Int32)), (.int cc)]))
                        have hc161_64 : cc.toInt < 65536 := own_b1 (Int.le_sub_one_of_lt hc111_60) (by decide)
                        refine OwnGo.fwd (fun tq' kq' => XS.icmpYes X0.here hx rfl (pc0 := 161) (pc' := 174) rfl (hb hby d1_161) rfl (own_blt rfl (by decide) hc161_64).1 (by decide) (by decide) kq') ?_
                        show OwnGo _ _ _ _ (s₁.setTop (mkF m 174 #[.val (.int cc)] []))
                        refine OwnGo.fwd (fun tq' kq' => XS.iconst X0.here hx rfl (hb hby d1_174) kq') ?_
                        show OwnGo _ _ _ _ (s₁.setTop (mkF m 175 #[.val (.int cc)] [(.int (0 : Int32))]))
                        exact own_retZ X0 hlk hx Bd.returns (hb hby d1_175) (by decide) (by decide) e0 ⟨by rw [own_nc0 (own_out10 (by omega) (by omega))]; rfl, N, rfl⟩
                      · refine OwnGo.fwd (fun tq' kq' => XS.icmpNo X0.here hx rfl (hb hby d1_111) rfl (own_bnlt rfl (by decide) hc111_60).1 kq') ?_
                        show OwnGo _ _ _ _ (s₁.setTop (mkF m 114 #[.val (.int cc)] []))
                        refine OwnGo.fwd (fun tq' kq' => XS.iloadN X0.here hx rfl (hb hby d1_114) rfl kq') ?_
                        show OwnGo _ _ _ _ (s₁.setTop (mkF m 115 #[.val (.int cc)] [(.int cc)]))
                        refine OwnGo.fwd (fun tq' kq' => XS.sipush X0.here hx rfl (hb hby d1_115) kq') ?_
                        show OwnGo _ _ _ _ (s₁.setTop (mkF m 118 #[.val (.int cc)] [(.int (12271 : Int32)), (.int cc)]))
                        by_cases hc118_65 : 12271 < cc.toInt
                        · refine OwnGo.fwd (fun tq' kq' => XS.icmpNo X0.here hx rfl (hb hby d1_118) rfl (own_blt (by decide) rfl hc118_65).2.2.2 kq') ?_
                          show OwnGo _ _ _ _ (s₁.setTop (mkF m 121 #[.val (.int cc)] []))
                          refine OwnGo.fwd (fun tq' kq' => XS.iloadN X0.here hx rfl (hb hby d1_121) rfl kq') ?_
                          show OwnGo _ _ _ _ (s₁.setTop (mkF m 122 #[.val (.int cc)] [(.int cc)]))
                          refine OwnGo.fwd (fun tq' kq' => XS.sipush X0.here hx rfl (hb hby d1_122) kq') ?_
                          show OwnGo _ _ _ _ (s₁.setTop (mkF m 125 #[.val (.int cc)] [(.int (12289 : Int32)), (.int cc)]))
                          by_cases hc125_66 : cc.toInt < 12289
                          · refine OwnGo.fwd (fun tq' kq' => XS.icmpYes X0.here hx rfl (pc0 := 125) (pc' := 134) rfl (hb hby d1_125) rfl (own_blt rfl (by decide) hc125_66).1 (by decide) (by decide) kq') ?_
                            show OwnGo _ _ _ _ (s₁.setTop (mkF m 134 #[.val (.int cc)] []))
                            refine OwnGo.fwd (fun tq' kq' => XS.iloadN X0.here hx rfl (hb hby d1_134) rfl kq') ?_
                            show OwnGo _ _ _ _ (s₁.setTop (mkF m 135 #[.val (.int cc)] [(.int cc)]))
                            refine OwnGo.fwd (fun tq' kq' => X0.ldcInt hx hown (mvT hZ (hw _ (List.mem_of_getElem? (i := 14) rfl))) (g := (mkF m 135 #[.val (.int cc)] [(.int cc)])) rfl (hb hby d1_135) tq' kq') ?_
                            show OwnGo _ _ _ _ (s₁.setTop (mkF m 137 #[.val (.int cc)] [(.int (63744 : Int32)), (.int cc)]))
                            have hc137_67 : cc.toInt < 63744 := own_b1 (Int.le_sub_one_of_lt hc125_66) (by decide)
                            refine OwnGo.fwd (fun tq' kq' => XS.icmpYes X0.here hx rfl (pc0 := 137) (pc' := 146) rfl (hb hby d1_137) rfl (own_blt rfl (by decide) hc137_67).1 (by decide) (by decide) kq') ?_
                            show OwnGo _ _ _ _ (s₁.setTop (mkF m 146 #[.val (.int cc)] []))
                            refine OwnGo.fwd (fun tq' kq' => XS.iloadN X0.here hx rfl (hb hby d1_146) rfl kq') ?_
                            show OwnGo _ _ _ _ (s₁.setTop (mkF m 147 #[.val (.int cc)] [(.int cc)]))
                            refine OwnGo.fwd (fun tq' kq' => X0.ldcInt hx hown (mvT hZ (hw _ (List.mem_of_getElem? (i := 15) rfl))) (g := (mkF m 147 #[.val (.int cc)] [(.int cc)])) rfl (hb hby d1_147) tq' kq') ?_
                            show OwnGo _ _ _ _ (s₁.setTop (mkF m 149 #[.val (.int cc)] [(.int (65008 : Int32)), (.int cc)]))
                            have hc149_68 : cc.toInt < 65008 := own_b1 (Int.le_sub_one_of_lt hc125_66) (by decide)
                            refine OwnGo.fwd (fun tq' kq' => XS.icmpYes X0.here hx rfl (pc0 := 149) (pc' := 158) rfl (hb hby d1_149) rfl (own_blt rfl (by decide) hc149_68).1 (by decide) (by decide) kq') ?_
                            show OwnGo _ _ _ _ (s₁.setTop (mkF m 158 #[.val (.int cc)] []))
                            refine OwnGo.fwd (fun tq' kq' => XS.iloadN X0.here hx rfl (hb hby d1_158) rfl kq') ?_
                            show OwnGo _ _ _ _ (s₁.setTop (mkF m 159 #[.val (.int cc)] [(.int cc)]))
                            refine OwnGo.fwd (fun tq' kq' => X0.ldcInt hx hown (mvT hZ (hw _ (List.mem_of_getElem? (i := 16) rfl))) (g := (mkF m 159 #[.val (.int cc)] [(.int cc)])) rfl (hb hby d1_159) tq' kq') ?_
                            show OwnGo _ _ _ _ (s₁.setTop (mkF m 161 #[.val (.int cc)] [(.int (65536 : Int32)), (.int cc)]))
                            have hc161_69 : cc.toInt < 65536 := own_b1 (Int.le_sub_one_of_lt hc125_66) (by decide)
                            refine OwnGo.fwd (fun tq' kq' => XS.icmpYes X0.here hx rfl (pc0 := 161) (pc' := 174) rfl (hb hby d1_161) rfl (own_blt rfl (by decide) hc161_69).1 (by decide) (by decide) kq') ?_
                            show OwnGo _ _ _ _ (s₁.setTop (mkF m 174 #[.val (.int cc)] []))
                            refine OwnGo.fwd (fun tq' kq' => XS.iconst X0.here hx rfl (hb hby d1_174) kq') ?_
                            show OwnGo _ _ _ _ (s₁.setTop (mkF m 175 #[.val (.int cc)] [(.int (0 : Int32))]))
                            exact own_retZ X0 hlk hx Bd.returns (hb hby d1_175) (by decide) (by decide) e0 ⟨by rw [own_nc0 (own_out11 (by omega) (by omega))]; rfl, N, rfl⟩
                          · refine OwnGo.fwd (fun tq' kq' => XS.icmpNo X0.here hx rfl (hb hby d1_125) rfl (own_bnlt rfl (by decide) hc125_66).1 kq') ?_
                            show OwnGo _ _ _ _ (s₁.setTop (mkF m 128 #[.val (.int cc)] []))
                            refine OwnGo.fwd (fun tq' kq' => XS.iloadN X0.here hx rfl (hb hby d1_128) rfl kq') ?_
                            show OwnGo _ _ _ _ (s₁.setTop (mkF m 129 #[.val (.int cc)] [(.int cc)]))
                            refine OwnGo.fwd (fun tq' kq' => X0.ldcInt hx hown (mvT hZ (hw _ (List.mem_of_getElem? (i := 24) rfl))) (g := (mkF m 129 #[.val (.int cc)] [(.int cc)])) rfl (hb hby d1_129) tq' kq') ?_
                            show OwnGo _ _ _ _ (s₁.setTop (mkF m 131 #[.val (.int cc)] [(.int (55295 : Int32)), (.int cc)]))
                            by_cases hc131_70 : 55295 < cc.toInt
                            · refine OwnGo.fwd (fun tq' kq' => XS.icmpNo X0.here hx rfl (hb hby d1_131) rfl (own_blt (by decide) rfl hc131_70).2.2.2 kq') ?_
                              show OwnGo _ _ _ _ (s₁.setTop (mkF m 134 #[.val (.int cc)] []))
                              refine OwnGo.fwd (fun tq' kq' => XS.iloadN X0.here hx rfl (hb hby d1_134) rfl kq') ?_
                              show OwnGo _ _ _ _ (s₁.setTop (mkF m 135 #[.val (.int cc)] [(.int cc)]))
                              refine OwnGo.fwd (fun tq' kq' => X0.ldcInt hx hown (mvT hZ (hw _ (List.mem_of_getElem? (i := 14) rfl))) (g := (mkF m 135 #[.val (.int cc)] [(.int cc)])) rfl (hb hby d1_135) tq' kq') ?_
                              show OwnGo _ _ _ _ (s₁.setTop (mkF m 137 #[.val (.int cc)] [(.int (63744 : Int32)), (.int cc)]))
                              by_cases hc137_71 : cc.toInt < 63744
                              · refine OwnGo.fwd (fun tq' kq' => XS.icmpYes X0.here hx rfl (pc0 := 137) (pc' := 146) rfl (hb hby d1_137) rfl (own_blt rfl (by decide) hc137_71).1 (by decide) (by decide) kq') ?_
                                show OwnGo _ _ _ _ (s₁.setTop (mkF m 146 #[.val (.int cc)] []))
                                refine OwnGo.fwd (fun tq' kq' => XS.iloadN X0.here hx rfl (hb hby d1_146) rfl kq') ?_
                                show OwnGo _ _ _ _ (s₁.setTop (mkF m 147 #[.val (.int cc)] [(.int cc)]))
                                refine OwnGo.fwd (fun tq' kq' => X0.ldcInt hx hown (mvT hZ (hw _ (List.mem_of_getElem? (i := 15) rfl))) (g := (mkF m 147 #[.val (.int cc)] [(.int cc)])) rfl (hb hby d1_147) tq' kq') ?_
                                show OwnGo _ _ _ _ (s₁.setTop (mkF m 149 #[.val (.int cc)] [(.int (65008 : Int32)), (.int cc)]))
                                have hc149_72 : cc.toInt < 65008 := own_b1 (Int.le_sub_one_of_lt hc137_71) (by decide)
                                refine OwnGo.fwd (fun tq' kq' => XS.icmpYes X0.here hx rfl (pc0 := 149) (pc' := 158) rfl (hb hby d1_149) rfl (own_blt rfl (by decide) hc149_72).1 (by decide) (by decide) kq') ?_
                                show OwnGo _ _ _ _ (s₁.setTop (mkF m 158 #[.val (.int cc)] []))
                                refine OwnGo.fwd (fun tq' kq' => XS.iloadN X0.here hx rfl (hb hby d1_158) rfl kq') ?_
                                show OwnGo _ _ _ _ (s₁.setTop (mkF m 159 #[.val (.int cc)] [(.int cc)]))
                                refine OwnGo.fwd (fun tq' kq' => X0.ldcInt hx hown (mvT hZ (hw _ (List.mem_of_getElem? (i := 16) rfl))) (g := (mkF m 159 #[.val (.int cc)] [(.int cc)])) rfl (hb hby d1_159) tq' kq') ?_
                                show OwnGo _ _ _ _ (s₁.setTop (mkF m 161 #[.val (.int cc)] [(.int (65536 : Int32)), (.int cc)]))
                                have hc161_73 : cc.toInt < 65536 := own_b1 (Int.le_sub_one_of_lt hc137_71) (by decide)
                                refine OwnGo.fwd (fun tq' kq' => XS.icmpYes X0.here hx rfl (pc0 := 161) (pc' := 174) rfl (hb hby d1_161) rfl (own_blt rfl (by decide) hc161_73).1 (by decide) (by decide) kq') ?_
                                show OwnGo _ _ _ _ (s₁.setTop (mkF m 174 #[.val (.int cc)] []))
                                refine OwnGo.fwd (fun tq' kq' => XS.iconst X0.here hx rfl (hb hby d1_174) kq') ?_
                                show OwnGo _ _ _ _ (s₁.setTop (mkF m 175 #[.val (.int cc)] [(.int (0 : Int32))]))
                                exact own_retZ X0 hlk hx Bd.returns (hb hby d1_175) (by decide) (by decide) e0 ⟨by rw [own_nc0 (own_out12 (by omega) (by omega))]; rfl, N, rfl⟩
                              · refine OwnGo.fwd (fun tq' kq' => XS.icmpNo X0.here hx rfl (hb hby d1_137) rfl (own_bnlt rfl (by decide) hc137_71).1 kq') ?_
                                show OwnGo _ _ _ _ (s₁.setTop (mkF m 140 #[.val (.int cc)] []))
                                refine OwnGo.fwd (fun tq' kq' => XS.iloadN X0.here hx rfl (hb hby d1_140) rfl kq') ?_
                                show OwnGo _ _ _ _ (s₁.setTop (mkF m 141 #[.val (.int cc)] [(.int cc)]))
                                refine OwnGo.fwd (fun tq' kq' => X0.ldcInt hx hown (mvT hZ (hw _ (List.mem_of_getElem? (i := 25) rfl))) (g := (mkF m 141 #[.val (.int cc)] [(.int cc)])) rfl (hb hby d1_141) tq' kq') ?_
                                show OwnGo _ _ _ _ (s₁.setTop (mkF m 143 #[.val (.int cc)] [(.int (64975 : Int32)), (.int cc)]))
                                by_cases hc143_74 : 64975 < cc.toInt
                                · refine OwnGo.fwd (fun tq' kq' => XS.icmpNo X0.here hx rfl (hb hby d1_143) rfl (own_blt (by decide) rfl hc143_74).2.2.2 kq') ?_
                                  show OwnGo _ _ _ _ (s₁.setTop (mkF m 146 #[.val (.int cc)] []))
                                  refine OwnGo.fwd (fun tq' kq' => XS.iloadN X0.here hx rfl (hb hby d1_146) rfl kq') ?_
                                  show OwnGo _ _ _ _ (s₁.setTop (mkF m 147 #[.val (.int cc)] [(.int cc)]))
                                  refine OwnGo.fwd (fun tq' kq' => X0.ldcInt hx hown (mvT hZ (hw _ (List.mem_of_getElem? (i := 15) rfl))) (g := (mkF m 147 #[.val (.int cc)] [(.int cc)])) rfl (hb hby d1_147) tq' kq') ?_
                                  show OwnGo _ _ _ _ (s₁.setTop (mkF m 149 #[.val (.int cc)] [(.int (65008 : Int32)), (.int cc)]))
                                  by_cases hc149_75 : cc.toInt < 65008
                                  · refine OwnGo.fwd (fun tq' kq' => XS.icmpYes X0.here hx rfl (pc0 := 149) (pc' := 158) rfl (hb hby d1_149) rfl (own_blt rfl (by decide) hc149_75).1 (by decide) (by decide) kq') ?_
                                    show OwnGo _ _ _ _ (s₁.setTop (mkF m 158 #[.val (.int cc)] []))
                                    refine OwnGo.fwd (fun tq' kq' => XS.iloadN X0.here hx rfl (hb hby d1_158) rfl kq') ?_
                                    show OwnGo _ _ _ _ (s₁.setTop (mkF m 159 #[.val (.int cc)] [(.int cc)]))
                                    refine OwnGo.fwd (fun tq' kq' => X0.ldcInt hx hown (mvT hZ (hw _ (List.mem_of_getElem? (i := 16) rfl))) (g := (mkF m 159 #[.val (.int cc)] [(.int cc)])) rfl (hb hby d1_159) tq' kq') ?_
                                    show OwnGo _ _ _ _ (s₁.setTop (mkF m 161 #[.val (.int cc)] [(.int (65536 : Int32)), (.int cc)]))
                                    have hc161_76 : cc.toInt < 65536 := own_b1 (Int.le_sub_one_of_lt hc149_75) (by decide)
                                    refine OwnGo.fwd (fun tq' kq' => XS.icmpYes X0.here hx rfl (pc0 := 161) (pc' := 174) rfl (hb hby d1_161) rfl (own_blt rfl (by decide) hc161_76).1 (by decide) (by decide) kq') ?_
                                    show OwnGo _ _ _ _ (s₁.setTop (mkF m 174 #[.val (.int cc)] []))
                                    refine OwnGo.fwd (fun tq' kq' => XS.iconst X0.here hx rfl (hb hby d1_174) kq') ?_
                                    show OwnGo _ _ _ _ (s₁.setTop (mkF m 175 #[.val (.int cc)] [(.int (0 : Int32))]))
                                    exact own_retZ X0 hlk hx Bd.returns (hb hby d1_175) (by decide) (by decide) e0 ⟨by rw [own_nc0 (own_out13 (by omega) (by omega))]; rfl, N, rfl⟩
                                  · refine OwnGo.fwd (fun tq' kq' => XS.icmpNo X0.here hx rfl (hb hby d1_149) rfl (own_bnlt rfl (by decide) hc149_75).1 kq') ?_
                                    show OwnGo _ _ _ _ (s₁.setTop (mkF m 152 #[.val (.int cc)] []))
                                    refine OwnGo.fwd (fun tq' kq' => XS.iloadN X0.here hx rfl (hb hby d1_152) rfl kq') ?_
                                    show OwnGo _ _ _ _ (s₁.setTop (mkF m 153 #[.val (.int cc)] [(.int cc)]))
                                    refine OwnGo.fwd (fun tq' kq' => X0.ldcInt hx hown (mvT hZ (hw _ (List.mem_of_getElem? (i := 27) rfl))) (g := (mkF m 153 #[.val (.int cc)] [(.int cc)])) rfl (hb hby d1_153) tq' kq') ?_
                                    show OwnGo _ _ _ _ (s₁.setTop (mkF m 155 #[.val (.int cc)] [(.int (65533 : Int32)), (.int cc)]))
                                    by_cases hc155_77 : 65533 < cc.toInt
                                    · refine OwnGo.fwd (fun tq' kq' => XS.icmpNo X0.here hx rfl (hb hby d1_155) rfl (own_blt (by decide) rfl hc155_77).2.2.2 kq') ?_
                                      show OwnGo _ _ _ _ (s₁.setTop (mkF m 158 #[.val (.int cc)] []))
                                      refine OwnGo.fwd (fun tq' kq' => XS.iloadN X0.here hx rfl (hb hby d1_158) rfl kq') ?_
                                      show OwnGo _ _ _ _ (s₁.setTop (mkF m 159 #[.val (.int cc)] [(.int cc)]))
                                      refine OwnGo.fwd (fun tq' kq' => X0.ldcInt hx hown (mvT hZ (hw _ (List.mem_of_getElem? (i := 16) rfl))) (g := (mkF m 159 #[.val (.int cc)] [(.int cc)])) rfl (hb hby d1_159) tq' kq') ?_
                                      show OwnGo _ _ _ _ (s₁.setTop (mkF m 161 #[.val (.int cc)] [(.int (65536 : Int32)), (.int cc)]))
                                      by_cases hc161_78 : cc.toInt < 65536
                                      · refine OwnGo.fwd (fun tq' kq' => XS.icmpYes X0.here hx rfl (pc0 := 161) (pc' := 174) rfl (hb hby d1_161) rfl (own_blt rfl (by decide) hc161_78).1 (by decide) (by decide) kq') ?_
                                        show OwnGo _ _ _ _ (s₁.setTop (mkF m 174 #[.val (.int cc)] []))
                                        refine OwnGo.fwd (fun tq' kq' => XS.iconst X0.here hx rfl (hb hby d1_174) kq') ?_
                                        show OwnGo _ _ _ _ (s₁.setTop (mkF m 175 #[.val (.int cc)] [(.int (0 : Int32))]))
                                        exact own_retZ X0 hlk hx Bd.returns (hb hby d1_175) (by decide) (by decide) e0 ⟨by rw [own_nc0 (own_out14 (by omega) (by omega))]; rfl, N, rfl⟩
                                      · refine OwnGo.fwd (fun tq' kq' => XS.icmpNo X0.here hx rfl (hb hby d1_161) rfl (own_bnlt rfl (by decide) hc161_78).1 kq') ?_
                                        show OwnGo _ _ _ _ (s₁.setTop (mkF m 164 #[.val (.int cc)] []))
                                        refine OwnGo.fwd (fun tq' kq' => XS.iloadN X0.here hx rfl (hb hby d1_164) rfl kq') ?_
                                        show OwnGo _ _ _ _ (s₁.setTop (mkF m 165 #[.val (.int cc)] [(.int cc)]))
                                        refine OwnGo.fwd (fun tq' kq' => X0.ldcInt hx hown (mvT hZ (hw _ (List.mem_of_getElem? (i := 28) rfl))) (g := (mkF m 165 #[.val (.int cc)] [(.int cc)])) rfl (hb hby d1_165) tq' kq') ?_
                                        show OwnGo _ _ _ _ (s₁.setTop (mkF m 167 #[.val (.int cc)] [(.int (983039 : Int32)), (.int cc)]))
                                        by_cases hc167_79 : 983039 < cc.toInt
                                        · refine OwnGo.fwd (fun tq' kq' => XS.icmpYes X0.here hx rfl (pc0 := 167) (pc' := 174) rfl (hb hby d1_167) rfl (own_blt (by decide) rfl hc167_79).2.2.1 (by decide) (by decide) kq') ?_
                                          show OwnGo _ _ _ _ (s₁.setTop (mkF m 174 #[.val (.int cc)] []))
                                          refine OwnGo.fwd (fun tq' kq' => XS.iconst X0.here hx rfl (hb hby d1_174) kq') ?_
                                          show OwnGo _ _ _ _ (s₁.setTop (mkF m 175 #[.val (.int cc)] [(.int (0 : Int32))]))
                                          exact own_retZ X0 hlk hx Bd.returns (hb hby d1_175) (by decide) (by decide) e0 ⟨by rw [own_nc0 (own_out15 (by omega))]; rfl, N, rfl⟩
                                        · refine OwnGo.fwd (fun tq' kq' => XS.icmpNo X0.here hx rfl (hb hby d1_167) rfl (own_bnlt (by decide) rfl hc167_79).2.2.1 kq') ?_
                                          show OwnGo _ _ _ _ (s₁.setTop (mkF m 170 #[.val (.int cc)] []))
                                          refine OwnGo.fwd (fun tq' kq' => XS.iconst X0.here hx rfl (hb hby d1_170) kq') ?_
                                          show OwnGo _ _ _ _ (s₁.setTop (mkF m 171 #[.val (.int cc)] [(.int (1 : Int32))]))
                                          refine OwnGo.fwd (fun tq' kq' => XS.goto X0.here hx rfl (pc0 := 171) (pc' := 175) rfl (hb hby d1_171) (by decide) (by decide) kq') ?_
                                          show OwnGo _ _ _ _ (s₁.setTop (mkF m 175 #[.val (.int cc)] [(.int (1 : Int32))]))
                                          exact own_retZ X0 hlk hx Bd.returns (hb hby d1_175) (by decide) (by decide) e0 ⟨by rw [own_nc1 (own_in14 (by omega) (by omega))]; rfl, N, rfl⟩
                                    · refine OwnGo.fwd (fun tq' kq' => XS.icmpYes X0.here hx rfl (pc0 := 155) (pc' := 170) rfl (hb hby d1_155) rfl (own_bnlt (by decide) rfl hc155_77).2.2.2 (by decide) (by decide) kq') ?_
                                      show OwnGo _ _ _ _ (s₁.setTop (mkF m 170 #[.val (.int cc)] []))
                                      refine OwnGo.fwd (fun tq' kq' => XS.iconst X0.here hx rfl (hb hby d1_170) kq') ?_
                                      show OwnGo _ _ _ _ (s₁.setTop (mkF m 171 #[.val (.int cc)] [(.int (1 : Int32))]))
                                      refine OwnGo.fwd (fun tq' kq' => XS.goto X0.here hx rfl (pc0 := 171) (pc' := 175) rfl (hb hby d1_171) (by decide) (by decide) kq') ?_
                                      show OwnGo _ _ _ _ (s₁.setTop (mkF m 175 #[.val (.int cc)] [(.int (1 : Int32))]))
                                      exact own_retZ X0 hlk hx Bd.returns (hb hby d1_175) (by decide) (by decide) e0 ⟨by rw [own_nc1 (own_in13 (by omega) (by omega))]; rfl, N, rfl⟩
                                · refine OwnGo.fwd (fun tq' kq' => XS.icmpYes X0.here hx rfl (pc0 := 143) (pc' := 170) rfl (hb hby d1_143) rfl (own_bnlt (by decide) rfl hc143_74).2.2.2 (by decide) (by decide) kq') ?_
                                  show OwnGo _ _ _ _ (s₁.setTop (mkF m 170 #[.val (.int cc)] []))
                                  refine OwnGo.fwd (fun tq' kq' => XS.iconst X0.here hx rfl (hb hby d1_170) kq') ?_
                                  show OwnGo _ _ _ _ (s₁.setTop (mkF m 171 #[.val (.int cc)] [(.int (1 : Int32))]))
                                  refine OwnGo.fwd (fun tq' kq' => XS.goto X0.here hx rfl (pc0 := 171) (pc' := 175) rfl (hb hby d1_171) (by decide) (by decide) kq') ?_
                                  show OwnGo _ _ _ _ (s₁.setTop (mkF m 175 #[.val (.int cc)] [(.int (1 : Int32))]))
                                  exact own_retZ X0 hlk hx Bd.returns (hb hby d1_175) (by decide) (by decide) e0 ⟨by rw [own_nc1 (own_in12 (by omega) (by omega))]; rfl, N, rfl⟩
                            · refine OwnGo.fwd (fun tq' kq' => XS.icmpYes X0.here hx rfl (pc0 := 131) (pc' := 170) rfl (hb hby d1_131) rfl (own_bnlt (by decide) rfl hc131_70).2.2.2 (by decide) (by decide) kq') ?_
                              show OwnGo _ _ _ _ (s₁.setTop (mkF m 170 #[.val (.int cc)] []))
                              refine OwnGo.fwd (fun tq' kq' => XS.iconst X0.here hx rfl (hb hby d1_170) kq') ?_
                              show OwnGo _ _ _ _ (s₁.setTop (mkF m 171 #[.val (.int cc)] [(.int (1 : Int32))]))
                              refine OwnGo.fwd (fun tq' kq' => XS.goto X0.here hx rfl (pc0 := 171) (pc' := 175) rfl (hb hby d1_171) (by decide) (by decide) kq') ?_
                              show OwnGo _ _ _ _ (s₁.setTop (mkF m 175 #[.val (.int cc)] [(.int (1 : Int32))]))
                              exact own_retZ X0 hlk hx Bd.returns (hb hby d1_175) (by decide) (by decide) e0 ⟨by rw [own_nc1 (own_in11 (by omega) (by omega))]; rfl, N, rfl⟩
                        · refine OwnGo.fwd (fun tq' kq' => XS.icmpYes X0.here hx rfl (pc0 := 118) (pc' := 170) rfl (hb hby d1_118) rfl (own_bnlt (by decide) rfl hc118_65).2.2.2 (by decide) (by decide) kq') ?_
                          show OwnGo _ _ _ _ (s₁.setTop (mkF m 170 #[.val (.int cc)] []))
                          refine OwnGo.fwd (fun tq' kq' => XS.iconst X0.here hx rfl (hb hby d1_170) kq') ?_
                          show OwnGo _ _ _ _ (s₁.setTop (mkF m 171 #[.val (.int cc)] [(.int (1 : Int32))]))
                          refine OwnGo.fwd (fun tq' kq' => XS.goto X0.here hx rfl (pc0 := 171) (pc' := 175) rfl (hb hby d1_171) (by decide) (by decide) kq') ?_
                          show OwnGo _ _ _ _ (s₁.setTop (mkF m 175 #[.val (.int cc)] [(.int (1 : Int32))]))
                          exact own_retZ X0 hlk hx Bd.returns (hb hby d1_175) (by decide) (by decide) e0 ⟨by rw [own_nc1 (own_in10 (by omega) (by omega))]; rfl, N, rfl⟩
                    · refine OwnGo.fwd (fun tq' kq' => XS.icmpYes X0.here hx rfl (pc0 := 104) (pc' := 170) rfl (hb hby d1_104) rfl (own_bnlt (by decide) rfl hc104_59).2.2.2 (by decide) (by decide) kq') ?_
                      show OwnGo _ _ _ _ (s₁.setTop (mkF m 170 #[.val (.int cc)] []))
                      refine OwnGo.fwd (fun tq' kq' => XS.iconst X0.here hx rfl (hb hby d1_170) kq') ?_
                      show OwnGo _ _ _ _ (s₁.setTop (mkF m 171 #[.val (.int cc)] [(.int (1 : Int32))]))
                      refine OwnGo.fwd (fun tq' kq' => XS.goto X0.here hx rfl (pc0 := 171) (pc' := 175) rfl (hb hby d1_171) (by decide) (by decide) kq') ?_
                      show OwnGo _ _ _ _ (s₁.setTop (mkF m 175 #[.val (.int cc)] [(.int (1 : Int32))]))
                      exact own_retZ X0 hlk hx Bd.returns (hb hby d1_175) (by decide) (by decide) e0 ⟨by rw [own_nc1 (own_in9 (by omega) (by omega))]; rfl, N, rfl⟩
            · refine OwnGo.fwd (fun tq' kq' => XS.icmpNo X0.here hx rfl (hb hby d1_69) rfl (own_bnlt (by decide) rfl hc69_50).2.2.1 kq') ?_
              show OwnGo _ _ _ _ (s₁.setTop (mkF m 72 #[.val (.int cc)] []))
              refine OwnGo.fwd (fun tq' kq' => XS.iloadN X0.here hx rfl (hb hby d1_72) rfl kq') ?_
              show OwnGo _ _ _ _ (s₁.setTop (mkF m 73 #[.val (.int cc)] [(.int cc)]))
              refine OwnGo.fwd (fun tq' kq' => XS.sipush X0.here hx rfl (hb hby d1_73) kq') ?_
              show OwnGo _ _ _ _ (s₁.setTop (mkF m 76 #[.val (.int cc)] [(.int (894 : Int32)), (.int cc)]))
              by_cases hc76_80 : cc.toInt = 894
              · refine OwnGo.fwd (fun tq' kq' => XS.icmpNo X0.here hx rfl (hb hby d1_76) rfl (own_beq rfl (by decide) hc76_80).2 kq') ?_
                show OwnGo _ _ _ _ (s₁.setTop (mkF m 79 #[.val (.int cc)] []))
                refine OwnGo.fwd (fun tq' kq' => XS.iloadN X0.here hx rfl (hb hby d1_79) rfl kq') ?_
                show OwnGo _ _ _ _ (s₁.setTop (mkF m 80 #[.val (.int cc)] [(.int cc)]))
                refine OwnGo.fwd (fun tq' kq' => XS.sipush X0.here hx rfl (hb hby d1_80) kq') ?_
                show OwnGo _ _ _ _ (s₁.setTop (mkF m 83 #[.val (.int cc)] [(.int (8204 : Int32)), (.int cc)]))
                have hc83_81 : ¬ (cc.toInt = 8204) := own_b6 (Int.le_of_eq hc76_80) (by decide)
                refine OwnGo.fwd (fun tq' kq' => XS.icmpNo X0.here hx rfl (hb hby d1_83) rfl (own_bneq rfl (by decide) hc83_81).1 kq') ?_
                show OwnGo _ _ _ _ (s₁.setTop (mkF m 86 #[.val (.int cc)] []))
                refine OwnGo.fwd (fun tq' kq' => XS.iloadN X0.here hx rfl (hb hby d1_86) rfl kq') ?_
                show OwnGo _ _ _ _ (s₁.setTop (mkF m 87 #[.val (.int cc)] [(.int cc)]))
                refine OwnGo.fwd (fun tq' kq' => XS.sipush X0.here hx rfl (hb hby d1_87) kq') ?_
                show OwnGo _ _ _ _ (s₁.setTop (mkF m 90 #[.val (.int cc)] [(.int (8205 : Int32)), (.int cc)]))
                have hc90_82 : ¬ (cc.toInt = 8205) := own_b6 (Int.le_of_eq hc76_80) (by decide)
                refine OwnGo.fwd (fun tq' kq' => XS.icmpNo X0.here hx rfl (hb hby d1_90) rfl (own_bneq rfl (by decide) hc90_82).1 kq') ?_
                show OwnGo _ _ _ _ (s₁.setTop (mkF m 93 #[.val (.int cc)] []))
                refine OwnGo.fwd (fun tq' kq' => XS.iloadN X0.here hx rfl (hb hby d1_93) rfl kq') ?_
                show OwnGo _ _ _ _ (s₁.setTop (mkF m 94 #[.val (.int cc)] [(.int cc)]))
                refine OwnGo.fwd (fun tq' kq' => XS.sipush X0.here hx rfl (hb hby d1_94) kq') ?_
                show OwnGo _ _ _ _ (s₁.setTop (mkF m 97 #[.val (.int cc)] [(.int (8304 : Int32)), (.int cc)]))
                have hc97_83 : cc.toInt < 8304 := own_b1 (Int.le_of_eq hc76_80) (by decide)
                refine OwnGo.fwd (fun tq' kq' => XS.icmpYes X0.here hx rfl (pc0 := 97) (pc' := 107) rfl (hb hby d1_97) rfl (own_blt rfl (by decide) hc97_83).1 (by decide) (by decide) kq') ?_
                show OwnGo _ _ _ _ (s₁.setTop (mkF m 107 #[.val (.int cc)] []))
                refine OwnGo.fwd (fun tq' kq' => XS.iloadN X0.here hx rfl (hb hby d1_107) rfl kq') ?_
                show OwnGo _ _ _ _ (s₁.setTop (mkF m 108 #[.val (.int cc)] [(.int cc)]))
                refine OwnGo.fwd (fun tq' kq' => XS.sipush X0.here hx rfl (hb hby d1_108) kq') ?_
                show OwnGo _ _ _ _ (s₁.setTop (mkF m 111 #[.val (.int cc)] [(.int (11264 : Int32)), (.int cc)]))
                have hc111_84 : cc.toInt < 11264 := own_b1 (Int.le_of_eq hc76_80) (by decide)
                refine OwnGo.fwd (fun tq' kq' => XS.icmpYes X0.here hx rfl (pc0 := 111) (pc' := 121) rfl (hb hby d1_111) rfl (own_blt rfl (by decide) hc111_84).1 (by decide) (by decide) kq') ?_
                show OwnGo _ _ _ _ (s₁.setTop (mkF m 121 #[.val (.int cc)] []))
                refine OwnGo.fwd (fun tq' kq' => XS.iloadN X0.here hx rfl (hb hby d1_121) rfl kq') ?_
                show OwnGo _ _ _ _ (s₁.setTop (mkF m 122 #[.val (.int cc)] [(.int cc)]))
                refine OwnGo.fwd (fun tq' kq' => XS.sipush X0.here hx rfl (hb hby d1_122) kq') ?_
                show OwnGo _ _ _ _ (s₁.setTop (mkF m 125 #[.val (.int cc)] [(.int (12289 : Int32)), (.int cc)]))
                have hc125_85 : cc.toInt < 12289 := own_b1 (Int.le_of_eq hc76_80) (by decide)
                refine OwnGo.fwd (fun tq' kq' => XS.icmpYes X0.here hx rfl (pc0 := 125) (pc' := 134) rfl (hb hby d1_125) rfl (own_blt rfl (by decide) hc125_85).1 (by decide) (by decide) kq') ?_
                show OwnGo _ _ _ _ (s₁.setTop (mkF m 134 #[.val (.int cc)] []))
                refine OwnGo.fwd (fun tq' kq' => XS.iloadN X0.here hx rfl (hb hby d1_134) rfl kq') ?_
                show OwnGo _ _ _ _ (s₁.setTop (mkF m 135 #[.val (.int cc)] [(.int cc)]))
                refine OwnGo.fwd (fun tq' kq' => X0.ldcInt hx hown (mvT hZ (hw _ (List.mem_of_getElem? (i := 14) rfl))) (g := (mkF m 135 #[.val (.int cc)] [(.int cc)])) rfl (hb hby d1_135) tq' kq') ?_
                show OwnGo _ _ _ _ (s₁.setTop (mkF m 137 #[.val (.int cc)] [(.int (63744 : Int32)), (.int cc)]))
                have hc137_86 : cc.toInt < 63744 := own_b1 (Int.le_of_eq hc76_80) (by decide)
                refine OwnGo.fwd (fun tq' kq' => XS.icmpYes X0.here hx rfl (pc0 := 137) (pc' := 146) rfl (hb hby d1_137) rfl (own_blt rfl (by decide) hc137_86).1 (by decide) (by decide) kq') ?_
                show OwnGo _ _ _ _ (s₁.setTop (mkF m 146 #[.val (.int cc)] []))
                refine OwnGo.fwd (fun tq' kq' => XS.iloadN X0.here hx rfl (hb hby d1_146) rfl kq') ?_
                show OwnGo _ _ _ _ (s₁.setTop (mkF m 147 #[.val (.int cc)] [(.int cc)]))
                refine OwnGo.fwd (fun tq' kq' => X0.ldcInt hx hown (mvT hZ (hw _ (List.mem_of_getElem? (i := 15) rfl))) (g := (mkF m 147 #[.val (.int cc)] [(.int cc)])) rfl (hb hby d1_147) tq' kq') ?_
                show OwnGo _ _ _ _ (s₁.setTop (mkF m 149 #[.val (.int cc)] [(.int (65008 : Int32)), (.int cc)]))
                have hc149_87 : cc.toInt < 65008 := own_b1 (Int.le_of_eq hc76_80) (by decide)
                refine OwnGo.fwd (fun tq' kq' => XS.icmpYes X0.here hx rfl (pc0 := 149) (pc' := 158) rfl (hb hby d1_149) rfl (own_blt rfl (by decide) hc149_87).1 (by decide) (by decide) kq') ?_
                show OwnGo _ _ _ _ (s₁.setTop (mkF m 158 #[.val (.int cc)] []))
                refine OwnGo.fwd (fun tq' kq' => XS.iloadN X0.here hx rfl (hb hby d1_158) rfl kq') ?_
                show OwnGo _ _ _ _ (s₁.setTop (mkF m 159 #[.val (.int cc)] [(.int cc)]))
                refine OwnGo.fwd (fun tq' kq' => X0.ldcInt hx hown (mvT hZ (hw _ (List.mem_of_getElem? (i := 16) rfl))) (g := (mkF m 159 #[.val (.int cc)] [(.int cc)])) rfl (hb hby d1_159) tq' kq') ?_
                show OwnGo _ _ _ _ (s₁.setTop (mkF m 161 #[.val (.int cc)] [(.int (65536 : Int32)), (.int cc)]))
                have hc161_88 : cc.toInt < 65536 := own_b1 (Int.le_of_eq hc76_80) (by decide)
                refine OwnGo.fwd (fun tq' kq' => XS.icmpYes X0.here hx rfl (pc0 := 161) (pc' := 174) rfl (hb hby d1_161) rfl (own_blt rfl (by decide) hc161_88).1 (by decide) (by decide) kq') ?_
                show OwnGo _ _ _ _ (s₁.setTop (mkF m 174 #[.val (.int cc)] []))
                refine OwnGo.fwd (fun tq' kq' => XS.iconst X0.here hx rfl (hb hby d1_174) kq') ?_
                show OwnGo _ _ _ _ (s₁.setTop (mkF m 175 #[.val (.int cc)] [(.int (0 : Int32))]))
                exact own_retZ X0 hlk hx Bd.returns (hb hby d1_175) (by decide) (by decide) e0 ⟨by rw [own_nc0 (own_out7 (by omega) (by omega))]; rfl, N, rfl⟩
              · refine OwnGo.fwd (fun tq' kq' => XS.icmpYes X0.here hx rfl (pc0 := 76) (pc' := 170) rfl (hb hby d1_76) rfl (own_bneq rfl (by decide) hc76_80).2 (by decide) (by decide) kq') ?_
                show OwnGo _ _ _ _ (s₁.setTop (mkF m 170 #[.val (.int cc)] []))
                refine OwnGo.fwd (fun tq' kq' => XS.iconst X0.here hx rfl (hb hby d1_170) kq') ?_
                show OwnGo _ _ _ _ (s₁.setTop (mkF m 171 #[.val (.int cc)] [(.int (1 : Int32))]))
                refine OwnGo.fwd (fun tq' kq' => XS.goto X0.here hx rfl (pc0 := 171) (pc' := 175) rfl (hb hby d1_171) (by decide) (by decide) kq') ?_
                show OwnGo _ _ _ _ (s₁.setTop (mkF m 175 #[.val (.int cc)] [(.int (1 : Int32))]))
                exact own_retZ X0 hlk hx Bd.returns (hb hby d1_175) (by decide) (by decide) e0 ⟨by rw [own_nc1 (if hq : cc.toInt < 894 then (own_in6 (by omega) (by omega)) else (own_in7 (by omega) (by omega)))]; rfl, N, rfl⟩
        · refine OwnGo.fwd (fun tq' kq' => XS.icmpNo X0.here hx rfl (hb hby d1_41) rfl (own_bnlt (by decide) rfl hc41_40).2.2.1 kq') ?_
          show OwnGo _ _ _ _ (s₁.setTop (mkF m 44 #[.val (.int cc)] []))
          refine OwnGo.fwd (fun tq' kq' => XS.iloadN X0.here hx rfl (hb hby d1_44) rfl kq') ?_
          show OwnGo _ _ _ _ (s₁.setTop (mkF m 45 #[.val (.int cc)] [(.int cc)]))
          refine OwnGo.fwd (fun tq' kq' => XS.sipush X0.here hx rfl (hb hby d1_45) kq') ?_
          show OwnGo _ _ _ _ (s₁.setTop (mkF m 48 #[.val (.int cc)] [(.int (215 : Int32)), (.int cc)]))
          by_cases hc48_89 : cc.toInt = 215
          · refine OwnGo.fwd (fun tq' kq' => XS.icmpYes X0.here hx rfl (pc0 := 48) (pc' := 58) rfl (hb hby d1_48) rfl (own_beq rfl (by decide) hc48_89).1 (by decide) (by decide) kq') ?_
            show OwnGo _ _ _ _ (s₁.setTop (mkF m 58 #[.val (.int cc)] []))
            refine OwnGo.fwd (fun tq' kq' => XS.iloadN X0.here hx rfl (hb hby d1_58) rfl kq') ?_
            show OwnGo _ _ _ _ (s₁.setTop (mkF m 59 #[.val (.int cc)] [(.int cc)]))
            refine OwnGo.fwd (fun tq' kq' => XS.sipush X0.here hx rfl (hb hby d1_59) kq') ?_
            show OwnGo _ _ _ _ (s₁.setTop (mkF m 62 #[.val (.int cc)] [(.int (880 : Int32)), (.int cc)]))
            have hc62_90 : cc.toInt < 880 := own_b1 (Int.le_of_eq hc48_89) (by decide)
            refine OwnGo.fwd (fun tq' kq' => XS.icmpYes X0.here hx rfl (pc0 := 62) (pc' := 79) rfl (hb hby d1_62) rfl (own_blt rfl (by decide) hc62_90).1 (by decide) (by decide) kq') ?_
            show OwnGo _ _ _ _ (s₁.setTop (mkF m 79 #[.val (.int cc)] []))
            refine OwnGo.fwd (fun tq' kq' => XS.iloadN X0.here hx rfl (hb hby d1_79) rfl kq') ?_
            show OwnGo _ _ _ _ (s₁.setTop (mkF m 80 #[.val (.int cc)] [(.int cc)]))
            refine OwnGo.fwd (fun tq' kq' => XS.sipush X0.here hx rfl (hb hby d1_80) kq') ?_
            show OwnGo _ _ _ _ (s₁.setTop (mkF m 83 #[.val (.int cc)] [(.int (8204 : Int32)), (.int cc)]))
            have hc83_91 : ¬ (cc.toInt = 8204) := own_b6 (Int.le_of_eq hc48_89) (by decide)
            refine OwnGo.fwd (fun tq' kq' => XS.icmpNo X0.here hx rfl (hb hby d1_83) rfl (own_bneq rfl (by decide) hc83_91).1 kq') ?_
            show OwnGo _ _ _ _ (s₁.setTop (mkF m 86 #[.val (.int cc)] []))
            refine OwnGo.fwd (fun tq' kq' => XS.iloadN X0.here hx rfl (hb hby d1_86) rfl kq') ?_
            show OwnGo _ _ _ _ (s₁.setTop (mkF m 87 #[.val (.int cc)] [(.int cc)]))
            refine OwnGo.fwd (fun tq' kq' => XS.sipush X0.here hx rfl (hb hby d1_87) kq') ?_
            show OwnGo _ _ _ _ (s₁.setTop (mkF m 90 #[.val (.int cc)] [(.int (8205 : Int32)), (.int cc)]))
            have hc90_92 : ¬ (cc.toInt = 8205) := own_b6 (Int.le_of_eq hc48_89) (by decide)
            refine OwnGo.fwd (fun tq' kq' => XS.icmpNo X0.here hx rfl (hb hby d1_90) rfl (own_bneq rfl (by decide) hc90_92).1 kq') ?_
            show OwnGo _ _ _ _ (s₁.setTop (mkF m 93 #[.val (.int cc)] []))
            refine OwnGo.fwd (fun tq' kq' => XS.iloadN X0.here hx rfl (hb hby d1_93) rfl kq') ?_
            show OwnGo _ _ _ _ (s₁.setTop (mkF m 94 #[.val (.int cc)] [(.int cc)]))
            refine OwnGo.fwd (fun tq' kq' => XS.sipush X0.here hx rfl (hb hby d1_94) kq') ?_
            show OwnGo _ _ _ _ (s₁.setTop (mkF m 97 #[.val (.int cc)] [(.int (8304 : Int32)), (.int cc)]))
            have hc97_93 : cc.toInt < 8304 := own_b1 (Int.le_of_eq hc48_89) (by decide)
            refine OwnGo.fwd (fun tq' kq' => XS.icmpYes X0.here hx rfl (pc0 := 97) (pc' := 107) rfl (hb hby d1_97) rfl (own_blt rfl (by decide) hc97_93).1 (by decide) (by decide) kq') ?_
            show OwnGo _ _ _ _ (s₁.setTop (mkF m 107 #[.val (.int cc)] []))
            refine OwnGo.fwd (fun tq' kq' => XS.iloadN X0.here hx rfl (hb hby d1_107) rfl kq') ?_
            show OwnGo _ _ _ _ (s₁.setTop (mkF m 108 #[.val (.int cc)] [(.int cc)]))
            refine OwnGo.fwd (fun tq' kq' => XS.sipush X0.here hx rfl (hb hby d1_108) kq') ?_
            show OwnGo _ _ _ _ (s₁.setTop (mkF m 111 #[.val (.int cc)] [(.int (11264 : Int32)), (.int cc)]))
            have hc111_94 : cc.toInt < 11264 := own_b1 (Int.le_of_eq hc48_89) (by decide)
            refine OwnGo.fwd (fun tq' kq' => XS.icmpYes X0.here hx rfl (pc0 := 111) (pc' := 121) rfl (hb hby d1_111) rfl (own_blt rfl (by decide) hc111_94).1 (by decide) (by decide) kq') ?_
            show OwnGo _ _ _ _ (s₁.setTop (mkF m 121 #[.val (.int cc)] []))
            refine OwnGo.fwd (fun tq' kq' => XS.iloadN X0.here hx rfl (hb hby d1_121) rfl kq') ?_
            show OwnGo _ _ _ _ (s₁.setTop (mkF m 122 #[.val (.int cc)] [(.int cc)]))
            refine OwnGo.fwd (fun tq' kq' => XS.sipush X0.here hx rfl (hb hby d1_122) kq') ?_
            show OwnGo _ _ _ _ (s₁.setTop (mkF m 125 #[.val (.int cc)] [(.int (12289 : Int32)), (.int cc)]))
            have hc125_95 : cc.toInt < 12289 := own_b1 (Int.le_of_eq hc48_89) (by decide)
            refine OwnGo.fwd (fun tq' kq' => XS.icmpYes X0.here hx rfl (pc0 := 125) (pc' := 134) rfl (hb hby d1_125) rfl (own_blt rfl (by decide) hc125_95).1 (by decide) (by decide) kq') ?_
            show OwnGo _ _ _ _ (s₁.setTop (mkF m 134 #[.val (.int cc)] []))
            refine OwnGo.fwd (fun tq' kq' => XS.iloadN X0.here hx rfl (hb hby d1_134) rfl kq') ?_
            show OwnGo _ _ _ _ (s₁.setTop (mkF m 135 #[.val (.int cc)] [(.int cc)]))
            refine OwnGo.fwd (fun tq' kq' => X0.ldcInt hx hown (mvT hZ (hw _ (List.mem_of_getElem? (i := 14) rfl))) (g := (mkF m 135 #[.val (.int cc)] [(.int cc)])) rfl (hb hby d1_135) tq' kq') ?_
            show OwnGo _ _ _ _ (s₁.setTop (mkF m 137 #[.val (.int cc)] [(.int (63744 : Int32)), (.int cc)]))
            have hc137_96 : cc.toInt < 63744 := own_b1 (Int.le_of_eq hc48_89) (by decide)
            refine OwnGo.fwd (fun tq' kq' => XS.icmpYes X0.here hx rfl (pc0 := 137) (pc' := 146) rfl (hb hby d1_137) rfl (own_blt rfl (by decide) hc137_96).1 (by decide) (by decide) kq') ?_
            show OwnGo _ _ _ _ (s₁.setTop (mkF m 146 #[.val (.int cc)] []))
            refine OwnGo.fwd (fun tq' kq' => XS.iloadN X0.here hx rfl (hb hby d1_146) rfl kq') ?_
            show OwnGo _ _ _ _ (s₁.setTop (mkF m 147 #[.val (.int cc)] [(.int cc)]))
            refine OwnGo.fwd (fun tq' kq' => X0.ldcInt hx hown (mvT hZ (hw _ (List.mem_of_getElem? (i := 15) rfl))) (g := (mkF m 147 #[.val (.int cc)] [(.int cc)])) rfl (hb hby d1_147) tq' kq') ?_
            show OwnGo _ _ _ _ (s₁.setTop (mkF m 149 #[.val (.int cc)] [(.int (65008 : Int32)), (.int cc)]))
            have hc149_97 : cc.toInt < 65008 := own_b1 (Int.le_of_eq hc48_89) (by decide)
            refine OwnGo.fwd (fun tq' kq' => XS.icmpYes X0.here hx rfl (pc0 := 149) (pc' := 158) rfl (hb hby d1_149) rfl (own_blt rfl (by decide) hc149_97).1 (by decide) (by decide) kq') ?_
            show OwnGo _ _ _ _ (s₁.setTop (mkF m 158 #[.val (.int cc)] []))
            refine OwnGo.fwd (fun tq' kq' => XS.iloadN X0.here hx rfl (hb hby d1_158) rfl kq') ?_
            show OwnGo _ _ _ _ (s₁.setTop (mkF m 159 #[.val (.int cc)] [(.int cc)]))
            refine OwnGo.fwd (fun tq' kq' => X0.ldcInt hx hown (mvT hZ (hw _ (List.mem_of_getElem? (i := 16) rfl))) (g := (mkF m 159 #[.val (.int cc)] [(.int cc)])) rfl (hb hby d1_159) tq' kq') ?_
            show OwnGo _ _ _ _ (s₁.setTop (mkF m 161 #[.val (.int cc)] [(.int (65536 : Int32)), (.int cc)]))
            have hc161_98 : cc.toInt < 65536 := own_b1 (Int.le_of_eq hc48_89) (by decide)
            refine OwnGo.fwd (fun tq' kq' => XS.icmpYes X0.here hx rfl (pc0 := 161) (pc' := 174) rfl (hb hby d1_161) rfl (own_blt rfl (by decide) hc161_98).1 (by decide) (by decide) kq') ?_
            show OwnGo _ _ _ _ (s₁.setTop (mkF m 174 #[.val (.int cc)] []))
            refine OwnGo.fwd (fun tq' kq' => XS.iconst X0.here hx rfl (hb hby d1_174) kq') ?_
            show OwnGo _ _ _ _ (s₁.setTop (mkF m 175 #[.val (.int cc)] [(.int (0 : Int32))]))
            exact own_retZ X0 hlk hx Bd.returns (hb hby d1_175) (by decide) (by decide) e0 ⟨by rw [own_nc0 (own_out4 (by omega) (by omega))]; rfl, N, rfl⟩
          · refine OwnGo.fwd (fun tq' kq' => XS.icmpNo X0.here hx rfl (hb hby d1_48) rfl (own_bneq rfl (by decide) hc48_89).1 kq') ?_
            show OwnGo _ _ _ _ (s₁.setTop (mkF m 51 #[.val (.int cc)] []))
            refine OwnGo.fwd (fun tq' kq' => XS.iloadN X0.here hx rfl (hb hby d1_51) rfl kq') ?_
            show OwnGo _ _ _ _ (s₁.setTop (mkF m 52 #[.val (.int cc)] [(.int cc)]))
            refine OwnGo.fwd (fun tq' kq' => XS.sipush X0.here hx rfl (hb hby d1_52) kq') ?_
            show OwnGo _ _ _ _ (s₁.setTop (mkF m 55 #[.val (.int cc)] [(.int (247 : Int32)), (.int cc)]))
            by_cases hc55_99 : cc.toInt = 247
            · refine OwnGo.fwd (fun tq' kq' => XS.icmpNo X0.here hx rfl (hb hby d1_55) rfl (own_beq rfl (by decide) hc55_99).2 kq') ?_
              show OwnGo _ _ _ _ (s₁.setTop (mkF m 58 #[.val (.int cc)] []))
              refine OwnGo.fwd (fun tq' kq' => XS.iloadN X0.here hx rfl (hb hby d1_58) rfl kq') ?_
              show OwnGo _ _ _ _ (s₁.setTop (mkF m 59 #[.val (.int cc)] [(.int cc)]))
              refine OwnGo.fwd (fun tq' kq' => XS.sipush X0.here hx rfl (hb hby d1_59) kq') ?_
              show OwnGo _ _ _ _ (s₁.setTop (mkF m 62 #[.val (.int cc)] [(.int (880 : Int32)), (.int cc)]))
              have hc62_100 : cc.toInt < 880 := own_b1 (Int.le_of_eq hc55_99) (by decide)
              refine OwnGo.fwd (fun tq' kq' => XS.icmpYes X0.here hx rfl (pc0 := 62) (pc' := 79) rfl (hb hby d1_62) rfl (own_blt rfl (by decide) hc62_100).1 (by decide) (by decide) kq') ?_
              show OwnGo _ _ _ _ (s₁.setTop (mkF m 79 #[.val (.int cc)] []))
              refine OwnGo.fwd (fun tq' kq' => XS.iloadN X0.here hx rfl (hb hby d1_79) rfl kq') ?_
              show OwnGo _ _ _ _ (s₁.setTop (mkF m 80 #[.val (.int cc)] [(.int cc)]))
              refine OwnGo.fwd (fun tq' kq' => XS.sipush X0.here hx rfl (hb hby d1_80) kq') ?_
              show OwnGo _ _ _ _ (s₁.setTop (mkF m 83 #[.val (.int cc)] [(.int (8204 : Int32)), (.int cc)]))
              have hc83_101 : ¬ (cc.toInt = 8204) := own_b6 (Int.le_of_eq hc55_99) (by decide)
              refine OwnGo.fwd (fun tq' kq' => XS.icmpNo X0.here hx rfl (hb hby d1_83) rfl (own_bneq rfl (by decide) hc83_101).1 kq') ?_
              show OwnGo _ _ _ _ (s₁.setTop (mkF m 86 #[.val (.int cc)] []))
              refine OwnGo.fwd (fun tq' kq' => XS.iloadN X0.here hx rfl (hb hby d1_86) rfl kq') ?_
              show OwnGo _ _ _ _ (s₁.setTop (mkF m 87 #[.val (.int cc)] [(.int cc)]))
              refine OwnGo.fwd (fun tq' kq' => XS.sipush X0.here hx rfl (hb hby d1_87) kq') ?_
              show OwnGo _ _ _ _ (s₁.setTop (mkF m 90 #[.val (.int cc)] [(.int (8205 : Int32)), (.int cc)]))
              have hc90_102 : ¬ (cc.toInt = 8205) := own_b6 (Int.le_of_eq hc55_99) (by decide)
              refine OwnGo.fwd (fun tq' kq' => XS.icmpNo X0.here hx rfl (hb hby d1_90) rfl (own_bneq rfl (by decide) hc90_102).1 kq') ?_
              show OwnGo _ _ _ _ (s₁.setTop (mkF m 93 #[.val (.int cc)] []))
              refine OwnGo.fwd (fun tq' kq' => XS.iloadN X0.here hx rfl (hb hby d1_93) rfl kq') ?_
              show OwnGo _ _ _ _ (s₁.setTop (mkF m 94 #[.val (.int cc)] [(.int cc)]))
              refine OwnGo.fwd (fun tq' kq' => XS.sipush X0.here hx rfl (hb hby d1_94) kq') ?_
              show OwnGo _ _ _ _ (s₁.setTop (mkF m 97 #[.val (.int cc)] [(.int (8304 : Int32)), (.int cc)]))
              have hc97_103 : cc.toInt < 8304 := own_b1 (Int.le_of_eq hc55_99) (by decide)
              refine OwnGo.fwd (fun tq' kq' => XS.icmpYes X0.here hx rfl (pc0 := 97) (pc' := 107) rfl (hb hby d1_97) rfl (own_blt rfl (by decide) hc97_103).1 (by decide) (by decide) kq') ?_
              show OwnGo _ _ _ _ (s₁.setTop (mkF m 107 #[.val (.int cc)] []))
              refine OwnGo.fwd (fun tq' kq' => XS.iloadN X0.here hx rfl (hb hby d1_107) rfl kq') ?_
              show OwnGo _ _ _ _ (s₁.setTop (mkF m 108 #[.val (.int cc)] [(.int cc)]))
              refine OwnGo.fwd (fun tq' kq' => XS.sipush X0.here hx rfl (hb hby d1_108) kq') ?_
              show OwnGo _ _ _ _ (s₁.setTop (mkF m 111 #[.val (.int cc)] [(.int (11264 : Int32)), (.int cc)]))
              have hc111_104 : cc.toInt < 11264 := own_b1 (Int.le_of_eq hc55_99) (by decide)
              refine OwnGo.fwd (fun tq' kq' => XS.icmpYes X0.here hx rfl (pc0 := 111) (pc' := 121) rfl (hb hby d1_111) rfl (own_blt rfl (by decide) hc111_104).1 (by decide) (by decide) kq') ?_
              show OwnGo _ _ _ _ (s₁.setTop (mkF m 121 #[.val (.int cc)] []))
              refine OwnGo.fwd (fun tq' kq' => XS.iloadN X0.here hx rfl (hb hby d1_121) rfl kq') ?_
              show OwnGo _ _ _ _ (s₁.setTop (mkF m 122 #[.val (.int cc)] [(.int cc)]))
              refine OwnGo.fwd (fun tq' kq' => XS.sipush X0.here hx rfl (hb hby d1_122) kq') ?_
              show OwnGo _ _ _ _ (s₁.setTop (mkF m 125 #[.val (.int cc)] [(.int (12289 : Int32)), (.int cc)]))
              have hc125_105 : cc.toInt < 12289 := own_b1 (Int.le_of_eq hc55_99) (by decide)
              refine OwnGo.fwd (fun tq' kq' => XS.icmpYes X0.here hx rfl (pc0 := 125) (pc' := 134) rfl (hb hby d1_125) rfl (own_blt rfl (by decide) hc125_105).1 (by decide) (by decide) kq') ?_
              show OwnGo _ _ _ _ (s₁.setTop (mkF m 134 #[.val (.int cc)] []))
              refine OwnGo.fwd (fun tq' kq' => XS.iloadN X0.here hx rfl (hb hby d1_134) rfl kq') ?_
              show OwnGo _ _ _ _ (s₁.setTop (mkF m 135 #[.val (.int cc)] [(.int cc)]))
              refine OwnGo.fwd (fun tq' kq' => X0.ldcInt hx hown (mvT hZ (hw _ (List.mem_of_getElem? (i := 14) rfl))) (g := (mkF m 135 #[.val (.int cc)] [(.int cc)])) rfl (hb hby d1_135) tq' kq') ?_
              show OwnGo _ _ _ _ (s₁.setTop (mkF m 137 #[.val (.int cc)] [(.int (63744 : Int32)), (.int cc)]))
              have hc137_106 : cc.toInt < 63744 := own_b1 (Int.le_of_eq hc55_99) (by decide)
              refine OwnGo.fwd (fun tq' kq' => XS.icmpYes X0.here hx rfl (pc0 := 137) (pc' := 146) rfl (hb hby d1_137) rfl (own_blt rfl (by decide) hc137_106).1 (by decide) (by decide) kq') ?_
              show OwnGo _ _ _ _ (s₁.setTop (mkF m 146 #[.val (.int cc)] []))
              refine OwnGo.fwd (fun tq' kq' => XS.iloadN X0.here hx rfl (hb hby d1_146) rfl kq') ?_
              show OwnGo _ _ _ _ (s₁.setTop (mkF m 147 #[.val (.int cc)] [(.int cc)]))
              refine OwnGo.fwd (fun tq' kq' => X0.ldcInt hx hown (mvT hZ (hw _ (List.mem_of_getElem? (i := 15) rfl))) (g := (mkF m 147 #[.val (.int cc)] [(.int cc)])) rfl (hb hby d1_147) tq' kq') ?_
              show OwnGo _ _ _ _ (s₁.setTop (mkF m 149 #[.val (.int cc)] [(.int (65008 : Int32)), (.int cc)]))
              have hc149_107 : cc.toInt < 65008 := own_b1 (Int.le_of_eq hc55_99) (by decide)
              refine OwnGo.fwd (fun tq' kq' => XS.icmpYes X0.here hx rfl (pc0 := 149) (pc' := 158) rfl (hb hby d1_149) rfl (own_blt rfl (by decide) hc149_107).1 (by decide) (by decide) kq') ?_
              show OwnGo _ _ _ _ (s₁.setTop (mkF m 158 #[.val (.int cc)] []))
              refine OwnGo.fwd (fun tq' kq' => XS.iloadN X0.here hx rfl (hb hby d1_158) rfl kq') ?_
              show OwnGo _ _ _ _ (s₁.setTop (mkF m 159 #[.val (.int cc)] [(.int cc)]))
              refine OwnGo.fwd (fun tq' kq' => X0.ldcInt hx hown (mvT hZ (hw _ (List.mem_of_getElem? (i := 16) rfl))) (g := (mkF m 159 #[.val (.int cc)] [(.int cc)])) rfl (hb hby d1_159) tq' kq') ?_
              show OwnGo _ _ _ _ (s₁.setTop (mkF m 161 #[.val (.int cc)] [(.int (65536 : Int32)), (.int cc)]))
              have hc161_108 : cc.toInt < 65536 := own_b1 (Int.le_of_eq hc55_99) (by decide)
              refine OwnGo.fwd (fun tq' kq' => XS.icmpYes X0.here hx rfl (pc0 := 161) (pc' := 174) rfl (hb hby d1_161) rfl (own_blt rfl (by decide) hc161_108).1 (by decide) (by decide) kq') ?_
              show OwnGo _ _ _ _ (s₁.setTop (mkF m 174 #[.val (.int cc)] []))
              refine OwnGo.fwd (fun tq' kq' => XS.iconst X0.here hx rfl (hb hby d1_174) kq') ?_
              show OwnGo _ _ _ _ (s₁.setTop (mkF m 175 #[.val (.int cc)] [(.int (0 : Int32))]))
              exact own_retZ X0 hlk hx Bd.returns (hb hby d1_175) (by decide) (by decide) e0 ⟨by rw [own_nc0 (own_out5 (by omega) (by omega))]; rfl, N, rfl⟩
            · refine OwnGo.fwd (fun tq' kq' => XS.icmpYes X0.here hx rfl (pc0 := 55) (pc' := 170) rfl (hb hby d1_55) rfl (own_bneq rfl (by decide) hc55_99).2 (by decide) (by decide) kq') ?_
              show OwnGo _ _ _ _ (s₁.setTop (mkF m 170 #[.val (.int cc)] []))
              refine OwnGo.fwd (fun tq' kq' => XS.iconst X0.here hx rfl (hb hby d1_170) kq') ?_
              show OwnGo _ _ _ _ (s₁.setTop (mkF m 171 #[.val (.int cc)] [(.int (1 : Int32))]))
              refine OwnGo.fwd (fun tq' kq' => XS.goto X0.here hx rfl (pc0 := 171) (pc' := 175) rfl (hb hby d1_171) (by decide) (by decide) kq') ?_
              show OwnGo _ _ _ _ (s₁.setTop (mkF m 175 #[.val (.int cc)] [(.int (1 : Int32))]))
              exact own_retZ X0 hlk hx Bd.returns (hb hby d1_175) (by decide) (by decide) e0 ⟨by rw [own_nc1 (if hq : cc.toInt < 215 then (own_in3 (by omega) (by omega)) else (if hq : cc.toInt < 247 then (own_in4 (by omega) (by omega)) else (own_in5 (by omega) (by omega))))]; rfl, N, rfl⟩
    · refine OwnGo.fwd (fun tq' kq' => XS.icmpYes X0.here hx rfl (pc0 := 9) (pc' := 170) rfl (hb hby d1_9) rfl (own_bnlt (by decide) rfl hc9_26).2.2.2 (by decide) (by decide) kq') ?_
      show OwnGo _ _ _ _ (s₁.setTop (mkF m 170 #[.val (.int cc)] []))
      refine OwnGo.fwd (fun tq' kq' => XS.iconst X0.here hx rfl (hb hby d1_170) kq') ?_
      show OwnGo _ _ _ _ (s₁.setTop (mkF m 171 #[.val (.int cc)] [(.int (1 : Int32))]))
      refine OwnGo.fwd (fun tq' kq' => XS.goto X0.here hx rfl (pc0 := 171) (pc' := 175) rfl (hb hby d1_171) (by decide) (by decide) kq') ?_
      show OwnGo _ _ _ _ (s₁.setTop (mkF m 175 #[.val (.int cc)] [(.int (1 : Int32))]))
      exact own_retZ X0 hlk hx Bd.returns (hb hby d1_175) (by decide) (by decide) e0 ⟨by rw [own_nc1 (own_in2 (by omega) (by omega))]; rfl, N, rfl⟩
theorem d2_0 : decode method_3_code 0 = .ok (.iload_n 0, 1) := by decide +kernel
theorem d2_1 : decode method_3_code 1 = .ok (.bipush 65, 2) := by decide +kernel
theorem d2_3 : decode method_3_code 3 = .ok (.if_icmp .ge 5, 3) := by decide +kernel
theorem d2_6 : decode method_3_code 6 = .ok (.iconst 1, 1) := by decide +kernel
theorem d2_7 : decode method_3_code 7 = .ok (.ireturn, 1) := by decide +kernel
theorem d2_8 : decode method_3_code 8 = .ok (.iload_n 0, 1) := by decide +kernel
theorem d2_9 : decode method_3_code 9 = .ok (.ldc 13, 2) := by decide +kernel
theorem d2_11 : decode method_3_code 11 = .ok (.if_icmp .le 5, 3) := by decide +kernel
theorem d2_14 : decode method_3_code 14 = .ok (.iconst 1, 1) := by decide +kernel
theorem d2_15 : decode method_3_code 15 = .ok (.ireturn, 1) := by decide +kernel
theorem d2_16 : decode method_3_code 16 = .ok (.iload_n 0, 1) := by decide +kernel
theorem d2_17 : decode method_3_code 17 = .ok (.bipush 91, 2) := by decide +kernel
theorem d2_19 : decode method_3_code 19 = .ok (.if_icmp .lt 11, 3) := by decide +kernel
theorem d2_22 : decode method_3_code 22 = .ok (.iload_n 0, 1) := by decide +kernel
theorem d2_23 : decode method_3_code 23 = .ok (.bipush 94, 2) := by decide +kernel
theorem d2_25 : decode method_3_code 25 = .ok (.if_icmp .gt 5, 3) := by decide +kernel
theorem d2_28 : decode method_3_code 28 = .ok (.iconst 1, 1) := by decide +kernel
theorem d2_29 : decode method_3_code 29 = .ok (.ireturn, 1) := by decide +kernel
theorem d2_30 : decode method_3_code 30 = .ok (.iload_n 0, 1) := by decide +kernel
theorem d2_31 : decode method_3_code 31 = .ok (.bipush 96, 2) := by decide +kernel
theorem d2_33 : decode method_3_code 33 = .ok (.if_icmp .ne 5, 3) := by decide +kernel
theorem d2_36 : decode method_3_code 36 = .ok (.iconst 1, 1) := by decide +kernel
theorem d2_37 : decode method_3_code 37 = .ok (.ireturn, 1) := by decide +kernel
theorem d2_38 : decode method_3_code 38 = .ok (.iload_n 0, 1) := by decide +kernel
theorem d2_39 : decode method_3_code 39 = .ok (.bipush 123, 2) := by decide +kernel
theorem d2_41 : decode method_3_code 41 = .ok (.if_icmp .lt 12, 3) := by decide +kernel
theorem d2_44 : decode method_3_code 44 = .ok (.iload_n 0, 1) := by decide +kernel
theorem d2_45 : decode method_3_code 45 = .ok (.sipush 191, 3) := by decide +kernel
theorem d2_48 : decode method_3_code 48 = .ok (.if_icmp .gt 5, 3) := by decide +kernel
theorem d2_51 : decode method_3_code 51 = .ok (.iconst 1, 1) := by decide +kernel
theorem d2_52 : decode method_3_code 52 = .ok (.ireturn, 1) := by decide +kernel
theorem d2_53 : decode method_3_code 53 = .ok (.iload_n 0, 1) := by decide +kernel
theorem d2_54 : decode method_3_code 54 = .ok (.sipush 215, 3) := by decide +kernel
theorem d2_57 : decode method_3_code 57 = .ok (.if_icmp .eq 10, 3) := by decide +kernel
theorem d2_60 : decode method_3_code 60 = .ok (.iload_n 0, 1) := by decide +kernel
theorem d2_61 : decode method_3_code 61 = .ok (.sipush 247, 3) := by decide +kernel
theorem d2_64 : decode method_3_code 64 = .ok (.if_icmp .ne 5, 3) := by decide +kernel
theorem d2_67 : decode method_3_code 67 = .ok (.iconst 1, 1) := by decide +kernel
theorem d2_68 : decode method_3_code 68 = .ok (.ireturn, 1) := by decide +kernel
theorem d2_69 : decode method_3_code 69 = .ok (.iload_n 0, 1) := by decide +kernel
theorem d2_70 : decode method_3_code 70 = .ok (.sipush 768, 3) := by decide +kernel
theorem d2_73 : decode method_3_code 73 = .ok (.if_icmp .lt 12, 3) := by decide +kernel
theorem d2_76 : decode method_3_code 76 = .ok (.iload_n 0, 1) := by decide +kernel
theorem d2_77 : decode method_3_code 77 = .ok (.sipush 879, 3) := by decide +kernel
theorem d2_80 : decode method_3_code 80 = .ok (.if_icmp .gt 5, 3) := by decide +kernel
theorem d2_83 : decode method_3_code 83 = .ok (.iconst 1, 1) := by decide +kernel
theorem d2_84 : decode method_3_code 84 = .ok (.ireturn, 1) := by decide +kernel
theorem d2_85 : decode method_3_code 85 = .ok (.iload_n 0, 1) := by decide +kernel
theorem d2_86 : decode method_3_code 86 = .ok (.sipush 894, 3) := by decide +kernel
theorem d2_89 : decode method_3_code 89 = .ok (.if_icmp .ne 5, 3) := by decide +kernel
theorem d2_92 : decode method_3_code 92 = .ok (.iconst 1, 1) := by decide +kernel
theorem d2_93 : decode method_3_code 93 = .ok (.ireturn, 1) := by decide +kernel
theorem d2_94 : decode method_3_code 94 = .ok (.iload_n 0, 1) := by decide +kernel
theorem d2_95 : decode method_3_code 95 = .ok (.sipush 8192, 3) := by decide +kernel
theorem d2_98 : decode method_3_code 98 = .ok (.if_icmp .lt 12, 3) := by decide +kernel
theorem d2_101 : decode method_3_code 101 = .ok (.iload_n 0, 1) := by decide +kernel
theorem d2_102 : decode method_3_code 102 = .ok (.sipush 8203, 3) := by decide +kernel
theorem d2_105 : decode method_3_code 105 = .ok (.if_icmp .gt 5, 3) := by decide +kernel
theorem d2_108 : decode method_3_code 108 = .ok (.iconst 1, 1) := by decide +kernel
theorem d2_109 : decode method_3_code 109 = .ok (.ireturn, 1) := by decide +kernel
theorem d2_110 : decode method_3_code 110 = .ok (.iload_n 0, 1) := by decide +kernel
theorem d2_111 : decode method_3_code 111 = .ok (.sipush 8206, 3) := by decide +kernel
theorem d2_114 : decode method_3_code 114 = .ok (.if_icmp .lt 12, 3) := by decide +kernel
theorem d2_117 : decode method_3_code 117 = .ok (.iload_n 0, 1) := by decide +kernel
theorem d2_118 : decode method_3_code 118 = .ok (.sipush 8303, 3) := by decide +kernel
theorem d2_121 : decode method_3_code 121 = .ok (.if_icmp .gt 5, 3) := by decide +kernel
theorem d2_124 : decode method_3_code 124 = .ok (.iconst 1, 1) := by decide +kernel
theorem d2_125 : decode method_3_code 125 = .ok (.ireturn, 1) := by decide +kernel
theorem d2_126 : decode method_3_code 126 = .ok (.iload_n 0, 1) := by decide +kernel
theorem d2_127 : decode method_3_code 127 = .ok (.sipush 8592, 3) := by decide +kernel
theorem d2_130 : decode method_3_code 130 = .ok (.if_icmp .lt 12, 3) := by decide +kernel
theorem d2_133 : decode method_3_code 133 = .ok (.iload_n 0, 1) := by decide +kernel
theorem d2_134 : decode method_3_code 134 = .ok (.sipush 11263, 3) := by decide +kernel
theorem d2_137 : decode method_3_code 137 = .ok (.if_icmp .gt 5, 3) := by decide +kernel
theorem d2_140 : decode method_3_code 140 = .ok (.iconst 1, 1) := by decide +kernel
theorem d2_141 : decode method_3_code 141 = .ok (.ireturn, 1) := by decide +kernel
theorem d2_142 : decode method_3_code 142 = .ok (.iload_n 0, 1) := by decide +kernel
theorem d2_143 : decode method_3_code 143 = .ok (.sipush 12272, 3) := by decide +kernel
theorem d2_146 : decode method_3_code 146 = .ok (.if_icmp .lt 12, 3) := by decide +kernel
theorem d2_149 : decode method_3_code 149 = .ok (.iload_n 0, 1) := by decide +kernel
theorem d2_150 : decode method_3_code 150 = .ok (.sipush 12288, 3) := by decide +kernel
theorem d2_153 : decode method_3_code 153 = .ok (.if_icmp .gt 5, 3) := by decide +kernel
theorem d2_156 : decode method_3_code 156 = .ok (.iconst 1, 1) := by decide +kernel
theorem d2_157 : decode method_3_code 157 = .ok (.ireturn, 1) := by decide +kernel
theorem d2_158 : decode method_3_code 158 = .ok (.iload_n 0, 1) := by decide +kernel
theorem d2_159 : decode method_3_code 159 = .ok (.ldc 27, 2) := by decide +kernel
theorem d2_161 : decode method_3_code 161 = .ok (.if_icmp .lt 11, 3) := by decide +kernel
theorem d2_164 : decode method_3_code 164 = .ok (.iload_n 0, 1) := by decide +kernel
theorem d2_165 : decode method_3_code 165 = .ok (.ldc 28, 2) := by decide +kernel
theorem d2_167 : decode method_3_code 167 = .ok (.if_icmp .gt 5, 3) := by decide +kernel
theorem d2_170 : decode method_3_code 170 = .ok (.iconst 1, 1) := by decide +kernel
theorem d2_171 : decode method_3_code 171 = .ok (.ireturn, 1) := by decide +kernel
theorem d2_172 : decode method_3_code 172 = .ok (.iload_n 0, 1) := by decide +kernel
theorem d2_173 : decode method_3_code 173 = .ok (.ldc 29, 2) := by decide +kernel
theorem d2_175 : decode method_3_code 175 = .ok (.if_icmp .lt 11, 3) := by decide +kernel
theorem d2_178 : decode method_3_code 178 = .ok (.iload_n 0, 1) := by decide +kernel
theorem d2_179 : decode method_3_code 179 = .ok (.ldc 30, 2) := by decide +kernel
theorem d2_181 : decode method_3_code 181 = .ok (.if_icmp .gt 5, 3) := by decide +kernel
theorem d2_184 : decode method_3_code 184 = .ok (.iconst 1, 1) := by decide +kernel
theorem d2_185 : decode method_3_code 185 = .ok (.ireturn, 1) := by decide +kernel
theorem d2_186 : decode method_3_code 186 = .ok (.iload_n 0, 1) := by decide +kernel
theorem d2_187 : decode method_3_code 187 = .ok (.ldc 31, 2) := by decide +kernel
theorem d2_189 : decode method_3_code 189 = .ok (.if_icmp .lt 11, 3) := by decide +kernel
theorem d2_192 : decode method_3_code 192 = .ok (.iload_n 0, 1) := by decide +kernel
theorem d2_193 : decode method_3_code 193 = .ok (.ldc 32, 2) := by decide +kernel
theorem d2_195 : decode method_3_code 195 = .ok (.if_icmp .gt 5, 3) := by decide +kernel
theorem d2_198 : decode method_3_code 198 = .ok (.iconst 1, 1) := by decide +kernel
theorem d2_199 : decode method_3_code 199 = .ok (.ireturn, 1) := by decide +kernel
theorem d2_200 : decode method_3_code 200 = .ok (.iconst 0, 1) := by decide +kernel
theorem d2_201 : decode method_3_code 201 = .ok (.ireturn, 1) := by decide +kernel
theorem pn_2 : plainFor (⟨"org/axiswarp/xml/XmlCharactersIsNcNameStartCharPinLaw", "inGap", "(I)Z"⟩ : MethodName) = true := plainFor_of_name (by first | (simp [plainName, overriddenIn]; done) | decide +kernel)
theorem ef_2 (m : MethodId) (x0 : Int32) : entryFrame m #[(.int x0)] 1 = mkF m 0 #[.val (.int x0)] [] := by first | (simp [entryFrame, mkF, argsToLocals, Value.category, maxLocals]; done) | rfl
def Q2 (Z : State) (cc : Int32) (h0 : Heap) (n0 : Nat) (v : Option Value) (h : Heap) (L : List Loc) : Prop := v = some (.int (own_gp cc)) ∧ Fr n0 L ∧ h = h0
set_option maxRecDepth 65536 in
set_option maxHeartbeats 40000000 in
theorem rm2 (l : Launch) (Z : State) (a0 : Array Value) (hw : ∀ d ∈ tables_1, d.before a0 Z = true) (ws : List Jvm.Cond) (cc : Int32) (h0 : Heap) (n0 : Nat) (Z0 : n0 ≤ h0.size) :
    MetFree l (⟨"org/axiswarp/xml/XmlCharactersIsNcNameStartCharPinLaw", "inGap", "(I)Z"⟩ : MethodName) (head1 (Jvm.Cond.code (⟨"org/axiswarp/xml/XmlCharactersIsNcNameStartCharPinLaw", "inGap", "(I)Z"⟩ : MethodName) method_3_code 1 (some .boolean) :: ws) ({ frames := 0, cells := 0, slots := 0, locals := 0 } : Room)) (fun arr' U => arr' = #[(.int cc)] ∧ Z.Warmed39 U.vm ∧ U.heap = h0) (fun _ _ _ _ _ => True) (fun _ U o U' => ∃ v L, o = .returned v ∧ (Q2 Z cc h0 n0) v U'.heap L ∧ FrameEnd U o U' L ({ frames := 0, cells := 0, slots := 0, locals := 0 } : Room).cells ({ frames := 0, cells := 0, slots := 0, locals := 0 } : Room).slots) := by
  refine MetFree.of_bodySF pn_2 hisR ?_
  intro p e s m args below meth c s₁ Bd hml0 hP hK
  obtain ⟨rfl, hZ, hh⟩ := hP
  have hx := Bd.exec
  have hby := Bd.bytes
  have hlk : meth.locks = false := BodyLoose.notSynchronized Bd
  have hml : c.maxLocals = 1 := hml0
  have hown : s.vm.findClass "org/axiswarp/xml/XmlCharactersIsNcNameStartCharPinLaw" = some m.cls := findClass_of_methodNamed Bd.named
  have hnm := (name_of_methodNamed Bd.named Bd.method).1
  have X0 : Stand p l e ({ frames := 0, cells := 0, slots := 0, locals := 0 } : Room) s m #[(.int cc)] below meth c s₁ [] 0 0 := Stand.of_body Bd
  have e0 : s₁.heap = h0 := by rw [← hh, Bd.state]; rfl
  have N := Fr.nil n0
  have Zs := Z0
  change OwnGo p.tables e below (OwnEnd s (Q2 Z cc h0 n0) ({ frames := 0, cells := 0, slots := 0, locals := 0 } : Room).cells ({ frames := 0, cells := 0, slots := 0, locals := 0 } : Room).slots) _
  refine OwnGo.fwd (fun tq' kq' => castTop (ef_2 m cc) kq') ?_
  show OwnGo _ _ _ _ (s₁.setTop (mkF m 0 #[.val (.int cc)] []))
  refine OwnGo.fwd (fun tq' kq' => XS.iloadN X0.here hx rfl (hb hby d2_0) rfl kq') ?_
  show OwnGo _ _ _ _ (s₁.setTop (mkF m 1 #[.val (.int cc)] [(.int cc)]))
  refine OwnGo.fwd (fun tq' kq' => XS.bipush X0.here hx rfl (hb hby d2_1) kq') ?_
  show OwnGo _ _ _ _ (s₁.setTop (mkF m 3 #[.val (.int cc)] [(.int (65 : Int32)), (.int cc)]))
  by_cases hc3_1 : cc.toInt < 65
  · refine OwnGo.fwd (fun tq' kq' => XS.icmpNo X0.here hx rfl (hb hby d2_3) rfl (own_blt rfl (by decide) hc3_1).2.1 kq') ?_
    show OwnGo _ _ _ _ (s₁.setTop (mkF m 6 #[.val (.int cc)] []))
    refine OwnGo.fwd (fun tq' kq' => XS.iconst X0.here hx rfl (hb hby d2_6) kq') ?_
    show OwnGo _ _ _ _ (s₁.setTop (mkF m 7 #[.val (.int cc)] [(.int (1 : Int32))]))
    exact own_retZ X0 hlk hx Bd.returns (hb hby d2_7) (by decide) (by decide) e0 ⟨by rw [own_gp1 (own_out0 (by omega))]; rfl, N, rfl⟩
  · refine OwnGo.fwd (fun tq' kq' => XS.icmpYes X0.here hx rfl (pc0 := 3) (pc' := 8) rfl (hb hby d2_3) rfl (own_bnlt rfl (by decide) hc3_1).2.1 (by decide) (by decide) kq') ?_
    show OwnGo _ _ _ _ (s₁.setTop (mkF m 8 #[.val (.int cc)] []))
    refine OwnGo.fwd (fun tq' kq' => XS.iloadN X0.here hx rfl (hb hby d2_8) rfl kq') ?_
    show OwnGo _ _ _ _ (s₁.setTop (mkF m 9 #[.val (.int cc)] [(.int cc)]))
    refine OwnGo.fwd (fun tq' kq' => X0.ldcInt hx hown (mvT hZ (hw _ (List.mem_of_getElem? (i := 7) rfl))) (g := (mkF m 9 #[.val (.int cc)] [(.int cc)])) rfl (hb hby d2_9) tq' kq') ?_
    show OwnGo _ _ _ _ (s₁.setTop (mkF m 11 #[.val (.int cc)] [(.int (983039 : Int32)), (.int cc)]))
    by_cases hc11_2 : 983039 < cc.toInt
    · refine OwnGo.fwd (fun tq' kq' => XS.icmpNo X0.here hx rfl (hb hby d2_11) rfl (own_blt (by decide) rfl hc11_2).2.2.2 kq') ?_
      show OwnGo _ _ _ _ (s₁.setTop (mkF m 14 #[.val (.int cc)] []))
      refine OwnGo.fwd (fun tq' kq' => XS.iconst X0.here hx rfl (hb hby d2_14) kq') ?_
      show OwnGo _ _ _ _ (s₁.setTop (mkF m 15 #[.val (.int cc)] [(.int (1 : Int32))]))
      exact own_retZ X0 hlk hx Bd.returns (hb hby d2_15) (by decide) (by decide) e0 ⟨by rw [own_gp1 (own_out15 (by omega))]; rfl, N, rfl⟩
    · refine OwnGo.fwd (fun tq' kq' => XS.icmpYes X0.here hx rfl (pc0 := 11) (pc' := 16) rfl (hb hby d2_11) rfl (own_bnlt (by decide) rfl hc11_2).2.2.2 (by decide) (by decide) kq') ?_
      show OwnGo _ _ _ _ (s₁.setTop (mkF m 16 #[.val (.int cc)] []))
      refine OwnGo.fwd (fun tq' kq' => XS.iloadN X0.here hx rfl (hb hby d2_16) rfl kq') ?_
      show OwnGo _ _ _ _ (s₁.setTop (mkF m 17 #[.val (.int cc)] [(.int cc)]))
      refine OwnGo.fwd (fun tq' kq' => XS.bipush X0.here hx rfl (hb hby d2_17) kq') ?_
      show OwnGo _ _ _ _ (s₁.setTop (mkF m 19 #[.val (.int cc)] [(.int (91 : Int32)), (.int cc)]))
      by_cases hc19_3 : cc.toInt < 91
      · refine OwnGo.fwd (fun tq' kq' => XS.icmpYes X0.here hx rfl (pc0 := 19) (pc' := 30) rfl (hb hby d2_19) rfl (own_blt rfl (by decide) hc19_3).1 (by decide) (by decide) kq') ?_
        show OwnGo _ _ _ _ (s₁.setTop (mkF m 30 #[.val (.int cc)] []))
        refine OwnGo.fwd (fun tq' kq' => XS.iloadN X0.here hx rfl (hb hby d2_30) rfl kq') ?_
        show OwnGo _ _ _ _ (s₁.setTop (mkF m 31 #[.val (.int cc)] [(.int cc)]))
        refine OwnGo.fwd (fun tq' kq' => XS.bipush X0.here hx rfl (hb hby d2_31) kq') ?_
        show OwnGo _ _ _ _ (s₁.setTop (mkF m 33 #[.val (.int cc)] [(.int (96 : Int32)), (.int cc)]))
        have hc33_4 : ¬ (cc.toInt = 96) := own_b6 (Int.le_sub_one_of_lt hc19_3) (by decide)
        refine OwnGo.fwd (fun tq' kq' => XS.icmpYes X0.here hx rfl (pc0 := 33) (pc' := 38) rfl (hb hby d2_33) rfl (own_bneq rfl (by decide) hc33_4).2 (by decide) (by decide) kq') ?_
        show OwnGo _ _ _ _ (s₁.setTop (mkF m 38 #[.val (.int cc)] []))
        refine OwnGo.fwd (fun tq' kq' => XS.iloadN X0.here hx rfl (hb hby d2_38) rfl kq') ?_
        show OwnGo _ _ _ _ (s₁.setTop (mkF m 39 #[.val (.int cc)] [(.int cc)]))
        refine OwnGo.fwd (fun tq' kq' => XS.bipush X0.here hx rfl (hb hby d2_39) kq') ?_
        show OwnGo _ _ _ _ (s₁.setTop (mkF m 41 #[.val (.int cc)] [(.int (123 : Int32)), (.int cc)]))
        have hc41_5 : cc.toInt < 123 := own_b1 (Int.le_sub_one_of_lt hc19_3) (by decide)
        refine OwnGo.fwd (fun tq' kq' => XS.icmpYes X0.here hx rfl (pc0 := 41) (pc' := 53) rfl (hb hby d2_41) rfl (own_blt rfl (by decide) hc41_5).1 (by decide) (by decide) kq') ?_
        show OwnGo _ _ _ _ (s₁.setTop (mkF m 53 #[.val (.int cc)] []))
        refine OwnGo.fwd (fun tq' kq' => XS.iloadN X0.here hx rfl (hb hby d2_53) rfl kq') ?_
        show OwnGo _ _ _ _ (s₁.setTop (mkF m 54 #[.val (.int cc)] [(.int cc)]))
        refine OwnGo.fwd (fun tq' kq' => XS.sipush X0.here hx rfl (hb hby d2_54) kq') ?_
        show OwnGo _ _ _ _ (s₁.setTop (mkF m 57 #[.val (.int cc)] [(.int (215 : Int32)), (.int cc)]))
        have hc57_6 : ¬ (cc.toInt = 215) := own_b6 (Int.le_sub_one_of_lt hc19_3) (by decide)
        refine OwnGo.fwd (fun tq' kq' => XS.icmpNo X0.here hx rfl (hb hby d2_57) rfl (own_bneq rfl (by decide) hc57_6).1 kq') ?_
        show OwnGo _ _ _ _ (s₁.setTop (mkF m 60 #[.val (.int cc)] []))
        refine OwnGo.fwd (fun tq' kq' => XS.iloadN X0.here hx rfl (hb hby d2_60) rfl kq') ?_
        show OwnGo _ _ _ _ (s₁.setTop (mkF m 61 #[.val (.int cc)] [(.int cc)]))
        refine OwnGo.fwd (fun tq' kq' => XS.sipush X0.here hx rfl (hb hby d2_61) kq') ?_
        show OwnGo _ _ _ _ (s₁.setTop (mkF m 64 #[.val (.int cc)] [(.int (247 : Int32)), (.int cc)]))
        have hc64_7 : ¬ (cc.toInt = 247) := own_b6 (Int.le_sub_one_of_lt hc19_3) (by decide)
        refine OwnGo.fwd (fun tq' kq' => XS.icmpYes X0.here hx rfl (pc0 := 64) (pc' := 69) rfl (hb hby d2_64) rfl (own_bneq rfl (by decide) hc64_7).2 (by decide) (by decide) kq') ?_
        show OwnGo _ _ _ _ (s₁.setTop (mkF m 69 #[.val (.int cc)] []))
        refine OwnGo.fwd (fun tq' kq' => XS.iloadN X0.here hx rfl (hb hby d2_69) rfl kq') ?_
        show OwnGo _ _ _ _ (s₁.setTop (mkF m 70 #[.val (.int cc)] [(.int cc)]))
        refine OwnGo.fwd (fun tq' kq' => XS.sipush X0.here hx rfl (hb hby d2_70) kq') ?_
        show OwnGo _ _ _ _ (s₁.setTop (mkF m 73 #[.val (.int cc)] [(.int (768 : Int32)), (.int cc)]))
        have hc73_8 : cc.toInt < 768 := own_b1 (Int.le_sub_one_of_lt hc19_3) (by decide)
        refine OwnGo.fwd (fun tq' kq' => XS.icmpYes X0.here hx rfl (pc0 := 73) (pc' := 85) rfl (hb hby d2_73) rfl (own_blt rfl (by decide) hc73_8).1 (by decide) (by decide) kq') ?_
        show OwnGo _ _ _ _ (s₁.setTop (mkF m 85 #[.val (.int cc)] []))
        refine OwnGo.fwd (fun tq' kq' => XS.iloadN X0.here hx rfl (hb hby d2_85) rfl kq') ?_
        show OwnGo _ _ _ _ (s₁.setTop (mkF m 86 #[.val (.int cc)] [(.int cc)]))
        refine OwnGo.fwd (fun tq' kq' => XS.sipush X0.here hx rfl (hb hby d2_86) kq') ?_
        show OwnGo _ _ _ _ (s₁.setTop (mkF m 89 #[.val (.int cc)] [(.int (894 : Int32)), (.int cc)]))
        have hc89_9 : ¬ (cc.toInt = 894) := own_b6 (Int.le_sub_one_of_lt hc19_3) (by decide)
        refine OwnGo.fwd (fun tq' kq' => XS.icmpYes X0.here hx rfl (pc0 := 89) (pc' := 94) rfl (hb hby d2_89) rfl (own_bneq rfl (by decide) hc89_9).2 (by decide) (by decide) kq') ?_
        show OwnGo _ _ _ _ (s₁.setTop (mkF m 94 #[.val (.int cc)] []))
        refine OwnGo.fwd (fun tq' kq' => XS.iloadN X0.here hx rfl (hb hby d2_94) rfl kq') ?_
        show OwnGo _ _ _ _ (s₁.setTop (mkF m 95 #[.val (.int cc)] [(.int cc)]))
        refine OwnGo.fwd (fun tq' kq' => XS.sipush X0.here hx rfl (hb hby d2_95) kq') ?_
        show OwnGo _ _ _ _ (s₁.setTop (mkF m 98 #[.val (.int cc)] [(.int (8192 : Int32)), (.int cc)]))
        have hc98_10 : cc.toInt < 8192 := own_b1 (Int.le_sub_one_of_lt hc19_3) (by decide)
        refine OwnGo.fwd (fun tq' kq' => XS.icmpYes X0.here hx rfl (pc0 := 98) (pc' := 110) rfl (hb hby d2_98) rfl (own_blt rfl (by decide) hc98_10).1 (by decide) (by decide) kq') ?_
        show OwnGo _ _ _ _ (s₁.setTop (mkF m 110 #[.val (.int cc)] []))
        refine OwnGo.fwd (fun tq' kq' => XS.iloadN X0.here hx rfl (hb hby d2_110) rfl kq') ?_
        show OwnGo _ _ _ _ (s₁.setTop (mkF m 111 #[.val (.int cc)] [(.int cc)]))
        refine OwnGo.fwd (fun tq' kq' => XS.sipush X0.here hx rfl (hb hby d2_111) kq') ?_
        show OwnGo _ _ _ _ (s₁.setTop (mkF m 114 #[.val (.int cc)] [(.int (8206 : Int32)), (.int cc)]))
        have hc114_11 : cc.toInt < 8206 := own_b1 (Int.le_sub_one_of_lt hc19_3) (by decide)
        refine OwnGo.fwd (fun tq' kq' => XS.icmpYes X0.here hx rfl (pc0 := 114) (pc' := 126) rfl (hb hby d2_114) rfl (own_blt rfl (by decide) hc114_11).1 (by decide) (by decide) kq') ?_
        show OwnGo _ _ _ _ (s₁.setTop (mkF m 126 #[.val (.int cc)] []))
        refine OwnGo.fwd (fun tq' kq' => XS.iloadN X0.here hx rfl (hb hby d2_126) rfl kq') ?_
        show OwnGo _ _ _ _ (s₁.setTop (mkF m 127 #[.val (.int cc)] [(.int cc)]))
        refine OwnGo.fwd (fun tq' kq' => XS.sipush X0.here hx rfl (hb hby d2_127) kq') ?_
        show OwnGo _ _ _ _ (s₁.setTop (mkF m 130 #[.val (.int cc)] [(.int (8592 : Int32)), (.int cc)]))
        have hc130_12 : cc.toInt < 8592 := own_b1 (Int.le_sub_one_of_lt hc19_3) (by decide)
        refine OwnGo.fwd (fun tq' kq' => XS.icmpYes X0.here hx rfl (pc0 := 130) (pc' := 142) rfl (hb hby d2_130) rfl (own_blt rfl (by decide) hc130_12).1 (by decide) (by decide) kq') ?_
        show OwnGo _ _ _ _ (s₁.setTop (mkF m 142 #[.val (.int cc)] []))
        refine OwnGo.fwd (fun tq' kq' => XS.iloadN X0.here hx rfl (hb hby d2_142) rfl kq') ?_
        show OwnGo _ _ _ _ (s₁.setTop (mkF m 143 #[.val (.int cc)] [(.int cc)]))
        refine OwnGo.fwd (fun tq' kq' => XS.sipush X0.here hx rfl (hb hby d2_143) kq') ?_
        show OwnGo _ _ _ _ (s₁.setTop (mkF m 146 #[.val (.int cc)] [(.int (12272 : Int32)), (.int cc)]))
        have hc146_13 : cc.toInt < 12272 := own_b1 (Int.le_sub_one_of_lt hc19_3) (by decide)
        refine OwnGo.fwd (fun tq' kq' => XS.icmpYes X0.here hx rfl (pc0 := 146) (pc' := 158) rfl (hb hby d2_146) rfl (own_blt rfl (by decide) hc146_13).1 (by decide) (by decide) kq') ?_
        show OwnGo _ _ _ _ (s₁.setTop (mkF m 158 #[.val (.int cc)] []))
        refine OwnGo.fwd (fun tq' kq' => XS.iloadN X0.here hx rfl (hb hby d2_158) rfl kq') ?_
        show OwnGo _ _ _ _ (s₁.setTop (mkF m 159 #[.val (.int cc)] [(.int cc)]))
        refine OwnGo.fwd (fun tq' kq' => X0.ldcInt hx hown (mvT hZ (hw _ (List.mem_of_getElem? (i := 21) rfl))) (g := (mkF m 159 #[.val (.int cc)] [(.int cc)])) rfl (hb hby d2_159) tq' kq') ?_
        show OwnGo _ _ _ _ (s₁.setTop (mkF m 161 #[.val (.int cc)] [(.int (55296 : Int32)), (.int cc)]))
        have hc161_14 : cc.toInt < 55296 := own_b1 (Int.le_sub_one_of_lt hc19_3) (by decide)
        refine OwnGo.fwd (fun tq' kq' => XS.icmpYes X0.here hx rfl (pc0 := 161) (pc' := 172) rfl (hb hby d2_161) rfl (own_blt rfl (by decide) hc161_14).1 (by decide) (by decide) kq') ?_
        show OwnGo _ _ _ _ (s₁.setTop (mkF m 172 #[.val (.int cc)] []))
        refine OwnGo.fwd (fun tq' kq' => XS.iloadN X0.here hx rfl (hb hby d2_172) rfl kq') ?_
        show OwnGo _ _ _ _ (s₁.setTop (mkF m 173 #[.val (.int cc)] [(.int cc)]))
        refine OwnGo.fwd (fun tq' kq' => X0.ldcInt hx hown (mvT hZ (hw _ (List.mem_of_getElem? (i := 22) rfl))) (g := (mkF m 173 #[.val (.int cc)] [(.int cc)])) rfl (hb hby d2_173) tq' kq') ?_
        show OwnGo _ _ _ _ (s₁.setTop (mkF m 175 #[.val (.int cc)] [(.int (64976 : Int32)), (.int cc)]))
        have hc175_15 : cc.toInt < 64976 := own_b1 (Int.le_sub_one_of_lt hc19_3) (by decide)
        refine OwnGo.fwd (fun tq' kq' => XS.icmpYes X0.here hx rfl (pc0 := 175) (pc' := 186) rfl (hb hby d2_175) rfl (own_blt rfl (by decide) hc175_15).1 (by decide) (by decide) kq') ?_
        show OwnGo _ _ _ _ (s₁.setTop (mkF m 186 #[.val (.int cc)] []))
        refine OwnGo.fwd (fun tq' kq' => XS.iloadN X0.here hx rfl (hb hby d2_186) rfl kq') ?_
        show OwnGo _ _ _ _ (s₁.setTop (mkF m 187 #[.val (.int cc)] [(.int cc)]))
        refine OwnGo.fwd (fun tq' kq' => X0.ldcInt hx hown (mvT hZ (hw _ (List.mem_of_getElem? (i := 23) rfl))) (g := (mkF m 187 #[.val (.int cc)] [(.int cc)])) rfl (hb hby d2_187) tq' kq') ?_
        show OwnGo _ _ _ _ (s₁.setTop (mkF m 189 #[.val (.int cc)] [(.int (65534 : Int32)), (.int cc)]))
        have hc189_16 : cc.toInt < 65534 := own_b1 (Int.le_sub_one_of_lt hc19_3) (by decide)
        refine OwnGo.fwd (fun tq' kq' => XS.icmpYes X0.here hx rfl (pc0 := 189) (pc' := 200) rfl (hb hby d2_189) rfl (own_blt rfl (by decide) hc189_16).1 (by decide) (by decide) kq') ?_
        show OwnGo _ _ _ _ (s₁.setTop (mkF m 200 #[.val (.int cc)] []))
        refine OwnGo.fwd (fun tq' kq' => XS.iconst X0.here hx rfl (hb hby d2_200) kq') ?_
        show OwnGo _ _ _ _ (s₁.setTop (mkF m 201 #[.val (.int cc)] [(.int (0 : Int32))]))
        exact own_retZ X0 hlk hx Bd.returns (hb hby d2_201) (by decide) (by decide) e0 ⟨by rw [own_gp0 (own_in0 (by omega) (by omega))]; rfl, N, rfl⟩
      · refine OwnGo.fwd (fun tq' kq' => XS.icmpNo X0.here hx rfl (hb hby d2_19) rfl (own_bnlt rfl (by decide) hc19_3).1 kq') ?_
        show OwnGo _ _ _ _ (s₁.setTop (mkF m 22 #[.val (.int cc)] []))
        refine OwnGo.fwd (fun tq' kq' => XS.iloadN X0.here hx rfl (hb hby d2_22) rfl kq') ?_
        show OwnGo _ _ _ _ (s₁.setTop (mkF m 23 #[.val (.int cc)] [(.int cc)]))
        refine OwnGo.fwd (fun tq' kq' => XS.bipush X0.here hx rfl (hb hby d2_23) kq') ?_
        show OwnGo _ _ _ _ (s₁.setTop (mkF m 25 #[.val (.int cc)] [(.int (94 : Int32)), (.int cc)]))
        by_cases hc25_17 : 94 < cc.toInt
        · refine OwnGo.fwd (fun tq' kq' => XS.icmpYes X0.here hx rfl (pc0 := 25) (pc' := 30) rfl (hb hby d2_25) rfl (own_blt (by decide) rfl hc25_17).2.2.1 (by decide) (by decide) kq') ?_
          show OwnGo _ _ _ _ (s₁.setTop (mkF m 30 #[.val (.int cc)] []))
          refine OwnGo.fwd (fun tq' kq' => XS.iloadN X0.here hx rfl (hb hby d2_30) rfl kq') ?_
          show OwnGo _ _ _ _ (s₁.setTop (mkF m 31 #[.val (.int cc)] [(.int cc)]))
          refine OwnGo.fwd (fun tq' kq' => XS.bipush X0.here hx rfl (hb hby d2_31) kq') ?_
          show OwnGo _ _ _ _ (s₁.setTop (mkF m 33 #[.val (.int cc)] [(.int (96 : Int32)), (.int cc)]))
          by_cases hc33_18 : cc.toInt = 96
          · refine OwnGo.fwd (fun tq' kq' => XS.icmpNo X0.here hx rfl (hb hby d2_33) rfl (own_beq rfl (by decide) hc33_18).2 kq') ?_
            show OwnGo _ _ _ _ (s₁.setTop (mkF m 36 #[.val (.int cc)] []))
            refine OwnGo.fwd (fun tq' kq' => XS.iconst X0.here hx rfl (hb hby d2_36) kq') ?_
            show OwnGo _ _ _ _ (s₁.setTop (mkF m 37 #[.val (.int cc)] [(.int (1 : Int32))]))
            exact own_retZ X0 hlk hx Bd.returns (hb hby d2_37) (by decide) (by decide) e0 ⟨by rw [own_gp1 (own_out2 (by omega) (by omega))]; rfl, N, rfl⟩
          · refine OwnGo.fwd (fun tq' kq' => XS.icmpYes X0.here hx rfl (pc0 := 33) (pc' := 38) rfl (hb hby d2_33) rfl (own_bneq rfl (by decide) hc33_18).2 (by decide) (by decide) kq') ?_
            show OwnGo _ _ _ _ (s₁.setTop (mkF m 38 #[.val (.int cc)] []))
            refine OwnGo.fwd (fun tq' kq' => XS.iloadN X0.here hx rfl (hb hby d2_38) rfl kq') ?_
            show OwnGo _ _ _ _ (s₁.setTop (mkF m 39 #[.val (.int cc)] [(.int cc)]))
            refine OwnGo.fwd (fun tq' kq' => XS.bipush X0.here hx rfl (hb hby d2_39) kq') ?_
            show OwnGo _ _ _ _ (s₁.setTop (mkF m 41 #[.val (.int cc)] [(.int (123 : Int32)), (.int cc)]))
            by_cases hc41_19 : cc.toInt < 123
            · refine OwnGo.fwd (fun tq' kq' => XS.icmpYes X0.here hx rfl (pc0 := 41) (pc' := 53) rfl (hb hby d2_41) rfl (own_blt rfl (by decide) hc41_19).1 (by decide) (by decide) kq') ?_
              show OwnGo _ _ _ _ (s₁.setTop (mkF m 53 #[.val (.int cc)] []))
              refine OwnGo.fwd (fun tq' kq' => XS.iloadN X0.here hx rfl (hb hby d2_53) rfl kq') ?_
              show OwnGo _ _ _ _ (s₁.setTop (mkF m 54 #[.val (.int cc)] [(.int cc)]))
              refine OwnGo.fwd (fun tq' kq' => XS.sipush X0.here hx rfl (hb hby d2_54) kq') ?_
              show OwnGo _ _ _ _ (s₁.setTop (mkF m 57 #[.val (.int cc)] [(.int (215 : Int32)), (.int cc)]))
              have hc57_20 : ¬ (cc.toInt = 215) := own_b6 (Int.le_sub_one_of_lt hc41_19) (by decide)
              refine OwnGo.fwd (fun tq' kq' => XS.icmpNo X0.here hx rfl (hb hby d2_57) rfl (own_bneq rfl (by decide) hc57_20).1 kq') ?_
              show OwnGo _ _ _ _ (s₁.setTop (mkF m 60 #[.val (.int cc)] []))
              refine OwnGo.fwd (fun tq' kq' => XS.iloadN X0.here hx rfl (hb hby d2_60) rfl kq') ?_
              show OwnGo _ _ _ _ (s₁.setTop (mkF m 61 #[.val (.int cc)] [(.int cc)]))
              refine OwnGo.fwd (fun tq' kq' => XS.sipush X0.here hx rfl (hb hby d2_61) kq') ?_
              show OwnGo _ _ _ _ (s₁.setTop (mkF m 64 #[.val (.int cc)] [(.int (247 : Int32)), (.int cc)]))
              have hc64_21 : ¬ (cc.toInt = 247) := own_b6 (Int.le_sub_one_of_lt hc41_19) (by decide)
              refine OwnGo.fwd (fun tq' kq' => XS.icmpYes X0.here hx rfl (pc0 := 64) (pc' := 69) rfl (hb hby d2_64) rfl (own_bneq rfl (by decide) hc64_21).2 (by decide) (by decide) kq') ?_
              show OwnGo _ _ _ _ (s₁.setTop (mkF m 69 #[.val (.int cc)] []))
              refine OwnGo.fwd (fun tq' kq' => XS.iloadN X0.here hx rfl (hb hby d2_69) rfl kq') ?_
              show OwnGo _ _ _ _ (s₁.setTop (mkF m 70 #[.val (.int cc)] [(.int cc)]))
              refine OwnGo.fwd (fun tq' kq' => XS.sipush X0.here hx rfl (hb hby d2_70) kq') ?_
              show OwnGo _ _ _ _ (s₁.setTop (mkF m 73 #[.val (.int cc)] [(.int (768 : Int32)), (.int cc)]))
              have hc73_22 : cc.toInt < 768 := own_b1 (Int.le_sub_one_of_lt hc41_19) (by decide)
              refine OwnGo.fwd (fun tq' kq' => XS.icmpYes X0.here hx rfl (pc0 := 73) (pc' := 85) rfl (hb hby d2_73) rfl (own_blt rfl (by decide) hc73_22).1 (by decide) (by decide) kq') ?_
              show OwnGo _ _ _ _ (s₁.setTop (mkF m 85 #[.val (.int cc)] []))
              refine OwnGo.fwd (fun tq' kq' => XS.iloadN X0.here hx rfl (hb hby d2_85) rfl kq') ?_
              show OwnGo _ _ _ _ (s₁.setTop (mkF m 86 #[.val (.int cc)] [(.int cc)]))
              refine OwnGo.fwd (fun tq' kq' => XS.sipush X0.here hx rfl (hb hby d2_86) kq') ?_
              show OwnGo _ _ _ _ (s₁.setTop (mkF m 89 #[.val (.int cc)] [(.int (894 : Int32)), (.int cc)]))
              have hc89_23 : ¬ (cc.toInt = 894) := own_b6 (Int.le_sub_one_of_lt hc41_19) (by decide)
              refine OwnGo.fwd (fun tq' kq' => XS.icmpYes X0.here hx rfl (pc0 := 89) (pc' := 94) rfl (hb hby d2_89) rfl (own_bneq rfl (by decide) hc89_23).2 (by decide) (by decide) kq') ?_
              show OwnGo _ _ _ _ (s₁.setTop (mkF m 94 #[.val (.int cc)] []))
              refine OwnGo.fwd (fun tq' kq' => XS.iloadN X0.here hx rfl (hb hby d2_94) rfl kq') ?_
              show OwnGo _ _ _ _ (s₁.setTop (mkF m 95 #[.val (.int cc)] [(.int cc)]))
              refine OwnGo.fwd (fun tq' kq' => XS.sipush X0.here hx rfl (hb hby d2_95) kq') ?_
              show OwnGo _ _ _ _ (s₁.setTop (mkF m 98 #[.val (.int cc)] [(.int (8192 : Int32)), (.int cc)]))
              have hc98_24 : cc.toInt < 8192 := own_b1 (Int.le_sub_one_of_lt hc41_19) (by decide)
              refine OwnGo.fwd (fun tq' kq' => XS.icmpYes X0.here hx rfl (pc0 := 98) (pc' := 110) rfl (hb hby d2_98) rfl (own_blt rfl (by decide) hc98_24).1 (by decide) (by decide) kq') ?_
              show OwnGo _ _ _ _ (s₁.setTop (mkF m 110 #[.val (.int cc)] []))
              refine OwnGo.fwd (fun tq' kq' => XS.iloadN X0.here hx rfl (hb hby d2_110) rfl kq') ?_
              show OwnGo _ _ _ _ (s₁.setTop (mkF m 111 #[.val (.int cc)] [(.int cc)]))
              refine OwnGo.fwd (fun tq' kq' => XS.sipush X0.here hx rfl (hb hby d2_111) kq') ?_
              show OwnGo _ _ _ _ (s₁.setTop (mkF m 114 #[.val (.int cc)] [(.int (8206 : Int32)), (.int cc)]))
              have hc114_25 : cc.toInt < 8206 := own_b1 (Int.le_sub_one_of_lt hc41_19) (by decide)
              refine OwnGo.fwd (fun tq' kq' => XS.icmpYes X0.here hx rfl (pc0 := 114) (pc' := 126) rfl (hb hby d2_114) rfl (own_blt rfl (by decide) hc114_25).1 (by decide) (by decide) kq') ?_
              show OwnGo _ _ _ _ (s₁.setTop (mkF m 126 #[.val (.int cc)] []))
              refine OwnGo.fwd (fun tq' kq' => XS.iloadN X0.here hx rfl (hb hby d2_126) rfl kq') ?_
              show OwnGo _ _ _ _ (s₁.setTop (mkF m 127 #[.val (.int cc)] [(.int cc)]))
              refine OwnGo.fwd (fun tq' kq' => XS.sipush X0.here hx rfl (hb hby d2_127) kq') ?_
              show OwnGo _ _ _ _ (s₁.setTop (mkF m 130 #[.val (.int cc)] [(.int (8592 : Int32)), (.int cc)]))
              have hc130_26 : cc.toInt < 8592 := own_b1 (Int.le_sub_one_of_lt hc41_19) (by decide)
              refine OwnGo.fwd (fun tq' kq' => XS.icmpYes X0.here hx rfl (pc0 := 130) (pc' := 142) rfl (hb hby d2_130) rfl (own_blt rfl (by decide) hc130_26).1 (by decide) (by decide) kq') ?_
              show OwnGo _ _ _ _ (s₁.setTop (mkF m 142 #[.val (.int cc)] []))
              refine OwnGo.fwd (fun tq' kq' => XS.iloadN X0.here hx rfl (hb hby d2_142) rfl kq') ?_
              show OwnGo _ _ _ _ (s₁.setTop (mkF m 143 #[.val (.int cc)] [(.int cc)]))
              refine OwnGo.fwd (fun tq' kq' => XS.sipush X0.here hx rfl (hb hby d2_143) kq') ?_
              show OwnGo _ _ _ _ (s₁.setTop (mkF m 146 #[.val (.int cc)] [(.int (12272 : Int32)), (.int cc)]))
              have hc146_27 : cc.toInt < 12272 := own_b1 (Int.le_sub_one_of_lt hc41_19) (by decide)
              refine OwnGo.fwd (fun tq' kq' => XS.icmpYes X0.here hx rfl (pc0 := 146) (pc' := 158) rfl (hb hby d2_146) rfl (own_blt rfl (by decide) hc146_27).1 (by decide) (by decide) kq') ?_
              show OwnGo _ _ _ _ (s₁.setTop (mkF m 158 #[.val (.int cc)] []))
              refine OwnGo.fwd (fun tq' kq' => XS.iloadN X0.here hx rfl (hb hby d2_158) rfl kq') ?_
              show OwnGo _ _ _ _ (s₁.setTop (mkF m 159 #[.val (.int cc)] [(.int cc)]))
              refine OwnGo.fwd (fun tq' kq' => X0.ldcInt hx hown (mvT hZ (hw _ (List.mem_of_getElem? (i := 21) rfl))) (g := (mkF m 159 #[.val (.int cc)] [(.int cc)])) rfl (hb hby d2_159) tq' kq') ?_
              show OwnGo _ _ _ _ (s₁.setTop (mkF m 161 #[.val (.int cc)] [(.int (55296 : Int32)), (.int cc)]))
              have hc161_28 : cc.toInt < 55296 := own_b1 (Int.le_sub_one_of_lt hc41_19) (by decide)
              refine OwnGo.fwd (fun tq' kq' => XS.icmpYes X0.here hx rfl (pc0 := 161) (pc' := 172) rfl (hb hby d2_161) rfl (own_blt rfl (by decide) hc161_28).1 (by decide) (by decide) kq') ?_
              show OwnGo _ _ _ _ (s₁.setTop (mkF m 172 #[.val (.int cc)] []))
              refine OwnGo.fwd (fun tq' kq' => XS.iloadN X0.here hx rfl (hb hby d2_172) rfl kq') ?_
              show OwnGo _ _ _ _ (s₁.setTop (mkF m 173 #[.val (.int cc)] [(.int cc)]))
              refine OwnGo.fwd (fun tq' kq' => X0.ldcInt hx hown (mvT hZ (hw _ (List.mem_of_getElem? (i := 22) rfl))) (g := (mkF m 173 #[.val (.int cc)] [(.int cc)])) rfl (hb hby d2_173) tq' kq') ?_
              show OwnGo _ _ _ _ (s₁.setTop (mkF m 175 #[.val (.int cc)] [(.int (64976 : Int32)), (.int cc)]))
              have hc175_29 : cc.toInt < 64976 := own_b1 (Int.le_sub_one_of_lt hc41_19) (by decide)
              refine OwnGo.fwd (fun tq' kq' => XS.icmpYes X0.here hx rfl (pc0 := 175) (pc' := 186) rfl (hb hby d2_175) rfl (own_blt rfl (by decide) hc175_29).1 (by decide) (by decide) kq') ?_
              show OwnGo _ _ _ _ (s₁.setTop (mkF m 186 #[.val (.int cc)] []))
              refine OwnGo.fwd (fun tq' kq' => XS.iloadN X0.here hx rfl (hb hby d2_186) rfl kq') ?_
              show OwnGo _ _ _ _ (s₁.setTop (mkF m 187 #[.val (.int cc)] [(.int cc)]))
              refine OwnGo.fwd (fun tq' kq' => X0.ldcInt hx hown (mvT hZ (hw _ (List.mem_of_getElem? (i := 23) rfl))) (g := (mkF m 187 #[.val (.int cc)] [(.int cc)])) rfl (hb hby d2_187) tq' kq') ?_
              show OwnGo _ _ _ _ (s₁.setTop (mkF m 189 #[.val (.int cc)] [(.int (65534 : Int32)), (.int cc)]))
              have hc189_30 : cc.toInt < 65534 := own_b1 (Int.le_sub_one_of_lt hc41_19) (by decide)
              refine OwnGo.fwd (fun tq' kq' => XS.icmpYes X0.here hx rfl (pc0 := 189) (pc' := 200) rfl (hb hby d2_189) rfl (own_blt rfl (by decide) hc189_30).1 (by decide) (by decide) kq') ?_
              show OwnGo _ _ _ _ (s₁.setTop (mkF m 200 #[.val (.int cc)] []))
              refine OwnGo.fwd (fun tq' kq' => XS.iconst X0.here hx rfl (hb hby d2_200) kq') ?_
              show OwnGo _ _ _ _ (s₁.setTop (mkF m 201 #[.val (.int cc)] [(.int (0 : Int32))]))
              exact own_retZ X0 hlk hx Bd.returns (hb hby d2_201) (by decide) (by decide) e0 ⟨by rw [own_gp0 (if hq : cc.toInt < 96 then (own_in1 (by omega) (by omega)) else (own_in2 (by omega) (by omega)))]; rfl, N, rfl⟩
            · refine OwnGo.fwd (fun tq' kq' => XS.icmpNo X0.here hx rfl (hb hby d2_41) rfl (own_bnlt rfl (by decide) hc41_19).1 kq') ?_
              show OwnGo _ _ _ _ (s₁.setTop (mkF m 44 #[.val (.int cc)] []))
              refine OwnGo.fwd (fun tq' kq' => XS.iloadN X0.here hx rfl (hb hby d2_44) rfl kq') ?_
              show OwnGo _ _ _ _ (s₁.setTop (mkF m 45 #[.val (.int cc)] [(.int cc)]))
              refine OwnGo.fwd (fun tq' kq' => XS.sipush X0.here hx rfl (hb hby d2_45) kq') ?_
              show OwnGo _ _ _ _ (s₁.setTop (mkF m 48 #[.val (.int cc)] [(.int (191 : Int32)), (.int cc)]))
              by_cases hc48_31 : 191 < cc.toInt
              · refine OwnGo.fwd (fun tq' kq' => XS.icmpYes X0.here hx rfl (pc0 := 48) (pc' := 53) rfl (hb hby d2_48) rfl (own_blt (by decide) rfl hc48_31).2.2.1 (by decide) (by decide) kq') ?_
                show OwnGo _ _ _ _ (s₁.setTop (mkF m 53 #[.val (.int cc)] []))
                refine OwnGo.fwd (fun tq' kq' => XS.iloadN X0.here hx rfl (hb hby d2_53) rfl kq') ?_
                show OwnGo _ _ _ _ (s₁.setTop (mkF m 54 #[.val (.int cc)] [(.int cc)]))
                refine OwnGo.fwd (fun tq' kq' => XS.sipush X0.here hx rfl (hb hby d2_54) kq') ?_
                show OwnGo _ _ _ _ (s₁.setTop (mkF m 57 #[.val (.int cc)] [(.int (215 : Int32)), (.int cc)]))
                by_cases hc57_32 : cc.toInt = 215
                · refine OwnGo.fwd (fun tq' kq' => XS.icmpYes X0.here hx rfl (pc0 := 57) (pc' := 67) rfl (hb hby d2_57) rfl (own_beq rfl (by decide) hc57_32).1 (by decide) (by decide) kq') ?_
                  show OwnGo _ _ _ _ (s₁.setTop (mkF m 67 #[.val (.int cc)] []))
                  refine OwnGo.fwd (fun tq' kq' => XS.iconst X0.here hx rfl (hb hby d2_67) kq') ?_
                  show OwnGo _ _ _ _ (s₁.setTop (mkF m 68 #[.val (.int cc)] [(.int (1 : Int32))]))
                  exact own_retZ X0 hlk hx Bd.returns (hb hby d2_68) (by decide) (by decide) e0 ⟨by rw [own_gp1 (own_out4 (by omega) (by omega))]; rfl, N, rfl⟩
                · refine OwnGo.fwd (fun tq' kq' => XS.icmpNo X0.here hx rfl (hb hby d2_57) rfl (own_bneq rfl (by decide) hc57_32).1 kq') ?_
                  show OwnGo _ _ _ _ (s₁.setTop (mkF m 60 #[.val (.int cc)] []))
                  refine OwnGo.fwd (fun tq' kq' => XS.iloadN X0.here hx rfl (hb hby d2_60) rfl kq') ?_
                  show OwnGo _ _ _ _ (s₁.setTop (mkF m 61 #[.val (.int cc)] [(.int cc)]))
                  refine OwnGo.fwd (fun tq' kq' => XS.sipush X0.here hx rfl (hb hby d2_61) kq') ?_
                  show OwnGo _ _ _ _ (s₁.setTop (mkF m 64 #[.val (.int cc)] [(.int (247 : Int32)), (.int cc)]))
                  by_cases hc64_33 : cc.toInt = 247
                  · refine OwnGo.fwd (fun tq' kq' => XS.icmpNo X0.here hx rfl (hb hby d2_64) rfl (own_beq rfl (by decide) hc64_33).2 kq') ?_
                    show OwnGo _ _ _ _ (s₁.setTop (mkF m 67 #[.val (.int cc)] []))
                    refine OwnGo.fwd (fun tq' kq' => XS.iconst X0.here hx rfl (hb hby d2_67) kq') ?_
                    show OwnGo _ _ _ _ (s₁.setTop (mkF m 68 #[.val (.int cc)] [(.int (1 : Int32))]))
                    exact own_retZ X0 hlk hx Bd.returns (hb hby d2_68) (by decide) (by decide) e0 ⟨by rw [own_gp1 (own_out5 (by omega) (by omega))]; rfl, N, rfl⟩
                  · refine OwnGo.fwd (fun tq' kq' => XS.icmpYes X0.here hx rfl (pc0 := 64) (pc' := 69) rfl (hb hby d2_64) rfl (own_bneq rfl (by decide) hc64_33).2 (by decide) (by decide) kq') ?_
                    show OwnGo _ _ _ _ (s₁.setTop (mkF m 69 #[.val (.int cc)] []))
                    refine OwnGo.fwd (fun tq' kq' => XS.iloadN X0.here hx rfl (hb hby d2_69) rfl kq') ?_
                    show OwnGo _ _ _ _ (s₁.setTop (mkF m 70 #[.val (.int cc)] [(.int cc)]))
                    refine OwnGo.fwd (fun tq' kq' => XS.sipush X0.here hx rfl (hb hby d2_70) kq') ?_
                    show OwnGo _ _ _ _ (s₁.setTop (mkF m 73 #[.val (.int cc)] [(.int (768 : Int32)), (.int cc)]))
                    by_cases hc73_34 : cc.toInt < 768
                    · refine OwnGo.fwd (fun tq' kq' => XS.icmpYes X0.here hx rfl (pc0 := 73) (pc' := 85) rfl (hb hby d2_73) rfl (own_blt rfl (by decide) hc73_34).1 (by decide) (by decide) kq') ?_
                      show OwnGo _ _ _ _ (s₁.setTop (mkF m 85 #[.val (.int cc)] []))
                      refine OwnGo.fwd (fun tq' kq' => XS.iloadN X0.here hx rfl (hb hby d2_85) rfl kq') ?_
                      show OwnGo _ _ _ _ (s₁.setTop (mkF m 86 #[.val (.int cc)] [(.int cc)]))
                      refine OwnGo.fwd (fun tq' kq' => XS.sipush X0.here hx rfl (hb hby d2_86) kq') ?_
                      show OwnGo _ _ _ _ (s₁.setTop (mkF m 89 #[.val (.int cc)] [(.int (894 : Int32)), (.int cc)]))
                      have hc89_35 : ¬ (cc.toInt = 894) := own_b6 (Int.le_sub_one_of_lt hc73_34) (by decide)
                      refine OwnGo.fwd (fun tq' kq' => XS.icmpYes X0.here hx rfl (pc0 := 89) (pc' := 94) rfl (hb hby d2_89) rfl (own_bneq rfl (by decide) hc89_35).2 (by decide) (by decide) kq') ?_
                      show OwnGo _ _ _ _ (s₁.setTop (mkF m 94 #[.val (.int cc)] []))
                      refine OwnGo.fwd (fun tq' kq' => XS.iloadN X0.here hx rfl (hb hby d2_94) rfl kq') ?_
                      show OwnGo _ _ _ _ (s₁.setTop (mkF m 95 #[.val (.int cc)] [(.int cc)]))
                      refine OwnGo.fwd (fun tq' kq' => XS.sipush X0.here hx rfl (hb hby d2_95) kq') ?_
                      show OwnGo _ _ _ _ (s₁.setTop (mkF m 98 #[.val (.int cc)] [(.int (8192 : Int32)), (.int cc)]))
                      have hc98_36 : cc.toInt < 8192 := own_b1 (Int.le_sub_one_of_lt hc73_34) (by decide)
                      refine OwnGo.fwd (fun tq' kq' => XS.icmpYes X0.here hx rfl (pc0 := 98) (pc' := 110) rfl (hb hby d2_98) rfl (own_blt rfl (by decide) hc98_36).1 (by decide) (by decide) kq') ?_
                      show OwnGo _ _ _ _ (s₁.setTop (mkF m 110 #[.val (.int cc)] []))
                      refine OwnGo.fwd (fun tq' kq' => XS.iloadN X0.here hx rfl (hb hby d2_110) rfl kq') ?_
                      show OwnGo _ _ _ _ (s₁.setTop (mkF m 111 #[.val (.int cc)] [(.int cc)]))
                      refine OwnGo.fwd (fun tq' kq' => XS.sipush X0.here hx rfl (hb hby d2_111) kq') ?_
                      show OwnGo _ _ _ _ (s₁.setTop (mkF m 114 #[.val (.int cc)] [(.int (8206 : Int32)), (.int cc)]))
                      have hc114_37 : cc.toInt < 8206 := own_b1 (Int.le_sub_one_of_lt hc73_34) (by decide)
                      refine OwnGo.fwd (fun tq' kq' => XS.icmpYes X0.here hx rfl (pc0 := 114) (pc' := 126) rfl (hb hby d2_114) rfl (own_blt rfl (by decide) hc114_37).1 (by decide) (by decide) kq') ?_
                      show OwnGo _ _ _ _ (s₁.setTop (mkF m 126 #[.val (.int cc)] []))
                      refine OwnGo.fwd (fun tq' kq' => XS.iloadN X0.here hx rfl (hb hby d2_126) rfl kq') ?_
                      show OwnGo _ _ _ _ (s₁.setTop (mkF m 127 #[.val (.int cc)] [(.int cc)]))
                      refine OwnGo.fwd (fun tq' kq' => XS.sipush X0.here hx rfl (hb hby d2_127) kq') ?_
                      show OwnGo _ _ _ _ (s₁.setTop (mkF m 130 #[.val (.int cc)] [(.int (8592 : Int32)), (.int cc)]))
                      have hc130_38 : cc.toInt < 8592 := own_b1 (Int.le_sub_one_of_lt hc73_34) (by decide)
                      refine OwnGo.fwd (fun tq' kq' => XS.icmpYes X0.here hx rfl (pc0 := 130) (pc' := 142) rfl (hb hby d2_130) rfl (own_blt rfl (by decide) hc130_38).1 (by decide) (by decide) kq') ?_
                      show OwnGo _ _ _ _ (s₁.setTop (mkF m 142 #[.val (.int cc)] []))
                      refine OwnGo.fwd (fun tq' kq' => XS.iloadN X0.here hx rfl (hb hby d2_142) rfl kq') ?_
                      show OwnGo _ _ _ _ (s₁.setTop (mkF m 143 #[.val (.int cc)] [(.int cc)]))
                      refine OwnGo.fwd (fun tq' kq' => XS.sipush X0.here hx rfl (hb hby d2_143) kq') ?_
                      show OwnGo _ _ _ _ (s₁.setTop (mkF m 146 #[.val (.int cc)] [(.int (12272 : Int32)), (.int cc)]))
                      have hc146_39 : cc.toInt < 12272 := own_b1 (Int.le_sub_one_of_lt hc73_34) (by decide)
                      refine OwnGo.fwd (fun tq' kq' => XS.icmpYes X0.here hx rfl (pc0 := 146) (pc' := 158) rfl (hb hby d2_146) rfl (own_blt rfl (by decide) hc146_39).1 (by decide) (by decide) kq') ?_
                      show OwnGo _ _ _ _ (s₁.setTop (mkF m 158 #[.val (.int cc)] []))
                      refine OwnGo.fwd (fun tq' kq' => XS.iloadN X0.here hx rfl (hb hby d2_158) rfl kq') ?_
                      show OwnGo _ _ _ _ (s₁.setTop (mkF m 159 #[.val (.int cc)] [(.int cc)]))
                      refine OwnGo.fwd (fun tq' kq' => X0.ldcInt hx hown (mvT hZ (hw _ (List.mem_of_getElem? (i := 21) rfl))) (g := (mkF m 159 #[.val (.int cc)] [(.int cc)])) rfl (hb hby d2_159) tq' kq') ?_
                      show OwnGo _ _ _ _ (s₁.setTop (mkF m 161 #[.val (.int cc)] [(.int (55296 : Int32)), (.int cc)]))
                      have hc161_40 : cc.toInt < 55296 := own_b1 (Int.le_sub_one_of_lt hc73_34) (by decide)
                      refine OwnGo.fwd (fun tq' kq' => XS.icmpYes X0.here hx rfl (pc0 := 161) (pc' := 172) rfl (hb hby d2_161) rfl (own_blt rfl (by decide) hc161_40).1 (by decide) (by decide) kq') ?_
                      show OwnGo _ _ _ _ (s₁.setTop (mkF m 172 #[.val (.int cc)] []))
                      refine OwnGo.fwd (fun tq' kq' => XS.iloadN X0.here hx rfl (hb hby d2_172) rfl kq') ?_
                      show OwnGo _ _ _ _ (s₁.setTop (mkF m 173 #[.val (.int cc)] [(.int cc)]))
                      refine OwnGo.fwd (fun tq' kq' => X0.ldcInt hx hown (mvT hZ (hw _ (List.mem_of_getElem? (i := 22) rfl))) (g := (mkF m 173 #[.val (.int cc)] [(.int cc)])) rfl (hb hby d2_173) tq' kq') ?_
                      show OwnGo _ _ _ _ (s₁.setTop (mkF m 175 #[.val (.int cc)] [(.int (64976 : Int32)), (.int cc)]))
                      have hc175_41 : cc.toInt < 64976 := own_b1 (Int.le_sub_one_of_lt hc73_34) (by decide)
                      refine OwnGo.fwd (fun tq' kq' => XS.icmpYes X0.here hx rfl (pc0 := 175) (pc' := 186) rfl (hb hby d2_175) rfl (own_blt rfl (by decide) hc175_41).1 (by decide) (by decide) kq') ?_
                      show OwnGo _ _ _ _ (s₁.setTop (mkF m 186 #[.val (.int cc)] []))
                      refine OwnGo.fwd (fun tq' kq' => XS.iloadN X0.here hx rfl (hb hby d2_186) rfl kq') ?_
                      show OwnGo _ _ _ _ (s₁.setTop (mkF m 187 #[.val (.int cc)] [(.int cc)]))
                      refine OwnGo.fwd (fun tq' kq' => X0.ldcInt hx hown (mvT hZ (hw _ (List.mem_of_getElem? (i := 23) rfl))) (g := (mkF m 187 #[.val (.int cc)] [(.int cc)])) rfl (hb hby d2_187) tq' kq') ?_
                      show OwnGo _ _ _ _ (s₁.setTop (mkF m 189 #[.val (.int cc)] [(.int (65534 : Int32)), (.int cc)]))
                      have hc189_42 : cc.toInt < 65534 := own_b1 (Int.le_sub_one_of_lt hc73_34) (by decide)
                      refine OwnGo.fwd (fun tq' kq' => XS.icmpYes X0.here hx rfl (pc0 := 189) (pc' := 200) rfl (hb hby d2_189) rfl (own_blt rfl (by decide) hc189_42).1 (by decide) (by decide) kq') ?_
                      show OwnGo _ _ _ _ (s₁.setTop (mkF m 200 #[.val (.int cc)] []))
                      refine OwnGo.fwd (fun tq' kq' => XS.iconst X0.here hx rfl (hb hby d2_200) kq') ?_
                      show OwnGo _ _ _ _ (s₁.setTop (mkF m 201 #[.val (.int cc)] [(.int (0 : Int32))]))
                      exact own_retZ X0 hlk hx Bd.returns (hb hby d2_201) (by decide) (by decide) e0 ⟨by rw [own_gp0 (if hq : cc.toInt < 215 then (own_in3 (by omega) (by omega)) else (if hq : cc.toInt < 247 then (own_in4 (by omega) (by omega)) else (own_in5 (by omega) (by omega))))]; rfl, N, rfl⟩
                    · refine OwnGo.fwd (fun tq' kq' => XS.icmpNo X0.here hx rfl (hb hby d2_73) rfl (own_bnlt rfl (by decide) hc73_34).1 kq') ?_
                      show OwnGo _ _ _ _ (s₁.setTop (mkF m 76 #[.val (.int cc)] []))
                      refine OwnGo.fwd (fun tq' kq' => XS.iloadN X0.here hx rfl (hb hby d2_76) rfl kq') ?_
                      show OwnGo _ _ _ _ (s₁.setTop (mkF m 77 #[.val (.int cc)] [(.int cc)]))
                      refine OwnGo.fwd (fun tq' kq' => XS.sipush X0.here hx rfl (hb hby d2_77) kq') ?_
                      show OwnGo _ _ _ _ (s₁.setTop (mkF m 80 #[.val (.int cc)] [(.int (879 : Int32)), (.int cc)]))
                      by_cases hc80_43 : 879 < cc.toInt
                      · refine OwnGo.fwd (fun tq' kq' => XS.icmpYes X0.here hx rfl (pc0 := 80) (pc' := 85) rfl (hb hby d2_80) rfl (own_blt (by decide) rfl hc80_43).2.2.1 (by decide) (by decide) kq') ?_
                        show OwnGo _ _ _ _ (s₁.setTop (mkF m 85 #[.val (.int cc)] []))
                        refine OwnGo.fwd (fun tq' kq' => XS.iloadN X0.here hx rfl (hb hby d2_85) rfl kq') ?_
                        show OwnGo _ _ _ _ (s₁.setTop (mkF m 86 #[.val (.int cc)] [(.int cc)]))
                        refine OwnGo.fwd (fun tq' kq' => XS.sipush X0.here hx rfl (hb hby d2_86) kq') ?_
                        show OwnGo _ _ _ _ (s₁.setTop (mkF m 89 #[.val (.int cc)] [(.int (894 : Int32)), (.int cc)]))
                        by_cases hc89_44 : cc.toInt = 894
                        · refine OwnGo.fwd (fun tq' kq' => XS.icmpNo X0.here hx rfl (hb hby d2_89) rfl (own_beq rfl (by decide) hc89_44).2 kq') ?_
                          show OwnGo _ _ _ _ (s₁.setTop (mkF m 92 #[.val (.int cc)] []))
                          refine OwnGo.fwd (fun tq' kq' => XS.iconst X0.here hx rfl (hb hby d2_92) kq') ?_
                          show OwnGo _ _ _ _ (s₁.setTop (mkF m 93 #[.val (.int cc)] [(.int (1 : Int32))]))
                          exact own_retZ X0 hlk hx Bd.returns (hb hby d2_93) (by decide) (by decide) e0 ⟨by rw [own_gp1 (own_out7 (by omega) (by omega))]; rfl, N, rfl⟩
                        · refine OwnGo.fwd (fun tq' kq' => XS.icmpYes X0.here hx rfl (pc0 := 89) (pc' := 94) rfl (hb hby d2_89) rfl (own_bneq rfl (by decide) hc89_44).2 (by decide) (by decide) kq') ?_
                          show OwnGo _ _ _ _ (s₁.setTop (mkF m 94 #[.val (.int cc)] []))
                          refine OwnGo.fwd (fun tq' kq' => XS.iloadN X0.here hx rfl (hb hby d2_94) rfl kq') ?_
                          show OwnGo _ _ _ _ (s₁.setTop (mkF m 95 #[.val (.int cc)] [(.int cc)]))
                          refine OwnGo.fwd (fun tq' kq' => XS.sipush X0.here hx rfl (hb hby d2_95) kq') ?_
                          show OwnGo _ _ _ _ (s₁.setTop (mkF m 98 #[.val (.int cc)] [(.int (8192 : Int32)), (.int cc)]))
                          by_cases hc98_45 : cc.toInt < 8192
                          · refine OwnGo.fwd (fun tq' kq' => XS.icmpYes X0.here hx rfl (pc0 := 98) (pc' := 110) rfl (hb hby d2_98) rfl (own_blt rfl (by decide) hc98_45).1 (by decide) (by decide) kq') ?_
                            show OwnGo _ _ _ _ (s₁.setTop (mkF m 110 #[.val (.int cc)] []))
                            refine OwnGo.fwd (fun tq' kq' => XS.iloadN X0.here hx rfl (hb hby d2_110) rfl kq') ?_
                            show OwnGo _ _ _ _ (s₁.setTop (mkF m 111 #[.val (.int cc)] [(.int cc)]))
                            refine OwnGo.fwd (fun tq' kq' => XS.sipush X0.here hx rfl (hb hby d2_111) kq') ?_
                            show OwnGo _ _ _ _ (s₁.setTop (mkF m 114 #[.val (.int cc)] [(.int (8206 : Int32)), (.int cc)]))
                            have hc114_46 : cc.toInt < 8206 := own_b1 (Int.le_sub_one_of_lt hc98_45) (by decide)
                            refine OwnGo.fwd (fun tq' kq' => XS.icmpYes X0.here hx rfl (pc0 := 114) (pc' := 126) rfl (hb hby d2_114) rfl (own_blt rfl (by decide) hc114_46).1 (by decide) (by decide) kq') ?_
                            show OwnGo _ _ _ _ (s₁.setTop (mkF m 126 #[.val (.int cc)] []))
                            refine OwnGo.fwd (fun tq' kq' => XS.iloadN X0.here hx rfl (hb hby d2_126) rfl kq') ?_
                            show OwnGo _ _ _ _ (s₁.setTop (mkF m 127 #[.val (.int cc)] [(.int cc)]))
                            refine OwnGo.fwd (fun tq' kq' => XS.sipush X0.here hx rfl (hb hby d2_127) kq') ?_
                            show OwnGo _ _ _ _ (s₁.setTop (mkF m 130 #[.val (.int cc)] [(.int (8592 : Int32)), (.int cc)]))
                            have hc130_47 : cc.toInt < 8592 := own_b1 (Int.le_sub_one_of_lt hc98_45) (by decide)
                            refine OwnGo.fwd (fun tq' kq' => XS.icmpYes X0.here hx rfl (pc0 := 130) (pc' := 142) rfl (hb hby d2_130) rfl (own_blt rfl (by decide) hc130_47).1 (by decide) (by decide) kq') ?_
                            show OwnGo _ _ _ _ (s₁.setTop (mkF m 142 #[.val (.int cc)] []))
                            refine OwnGo.fwd (fun tq' kq' => XS.iloadN X0.here hx rfl (hb hby d2_142) rfl kq') ?_
                            show OwnGo _ _ _ _ (s₁.setTop (mkF m 143 #[.val (.int cc)] [(.int cc)]))
                            refine OwnGo.fwd (fun tq' kq' => XS.sipush X0.here hx rfl (hb hby d2_143) kq') ?_
                            show OwnGo _ _ _ _ (s₁.setTop (mkF m 146 #[.val (.int cc)] [(.int (12272 : Int32)), (.int cc)]))
                            have hc146_48 : cc.toInt < 12272 := own_b1 (Int.le_sub_one_of_lt hc98_45) (by decide)
                            refine OwnGo.fwd (fun tq' kq' => XS.icmpYes X0.here hx rfl (pc0 := 146) (pc' := 158) rfl (hb hby d2_146) rfl (own_blt rfl (by decide) hc146_48).1 (by decide) (by decide) kq') ?_
                            show OwnGo _ _ _ _ (s₁.setTop (mkF m 158 #[.val (.int cc)] []))
                            refine OwnGo.fwd (fun tq' kq' => XS.iloadN X0.here hx rfl (hb hby d2_158) rfl kq') ?_
                            show OwnGo _ _ _ _ (s₁.setTop (mkF m 159 #[.val (.int cc)] [(.int cc)]))
                            refine OwnGo.fwd (fun tq' kq' => X0.ldcInt hx hown (mvT hZ (hw _ (List.mem_of_getElem? (i := 21) rfl))) (g := (mkF m 159 #[.val (.int cc)] [(.int cc)])) rfl (hb hby d2_159) tq' kq') ?_
                            show OwnGo _ _ _ _ (s₁.setTop (mkF m 161 #[.val (.int cc)] [(.int (55296 : Int32)), (.int cc)]))
                            have hc161_49 : cc.toInt < 55296 := own_b1 (Int.le_sub_one_of_lt hc98_45) (by decide)
                            refine OwnGo.fwd (fun tq' kq' => XS.icmpYes X0.here hx rfl (pc0 := 161) (pc' := 172) rfl (hb hby d2_161) rfl (own_blt rfl (by decide) hc161_49).1 (by decide) (by decide) kq') ?_
                            show OwnGo _ _ _ _ (s₁.setTop (mkF m 172 #[.val (.int cc)] []))
                            refine OwnGo.fwd (fun tq' kq' => XS.iloadN X0.here hx rfl (hb hby d2_172) rfl kq') ?_
                            show OwnGo _ _ _ _ (s₁.setTop (mkF m 173 #[.val (.int cc)] [(.int cc)]))
                            refine OwnGo.fwd (fun tq' kq' => X0.ldcInt hx hown (mvT hZ (hw _ (List.mem_of_getElem? (i := 22) rfl))) (g := (mkF m 173 #[.val (.int cc)] [(.int cc)])) rfl (hb hby d2_173) tq' kq') ?_
                            show OwnGo _ _ _ _ (s₁.setTop (mkF m 175 #[.val (.int cc)] [(.int (64976 : Int32)), (.int cc)]))
                            have hc175_50 : cc.toInt < 64976 := own_b1 (Int.le_sub_one_of_lt hc98_45) (by decide)
                            refine OwnGo.fwd (fun tq' kq' => XS.icmpYes X0.here hx rfl (pc0 := 175) (pc' := 186) rfl (hb hby d2_175) rfl (own_blt rfl (by decide) hc175_50).1 (by decide) (by decide) kq') ?_
                            show OwnGo _ _ _ _ (s₁.setTop (mkF m 186 #[.val (.int cc)] []))
                            refine OwnGo.fwd (fun tq' kq' => XS.iloadN X0.here hx rfl (hb hby d2_186) rfl kq') ?_
                            show OwnGo _ _ _ _ (s₁.setTop (mkF m 187 #[.val (.int cc)] [(.int cc)]))
                            refine OwnGo.fwd (fun tq' kq' => X0.ldcInt hx hown (mvT hZ (hw _ (List.mem_of_getElem? (i := 23) rfl))) (g := (mkF m 187 #[.val (.int cc)] [(.int cc)])) rfl (hb hby d2_187) tq' kq') ?_
                            show OwnGo _ _ _ _ (s₁.setTop (mkF m 189 #[.val (.int cc)] [(.int (65534 : Int32)), (.int cc)]))
                            have hc189_51 : cc.toInt < 65534 := own_b1 (Int.le_sub_one_of_lt hc98_45) (by decide)
                            refine OwnGo.fwd (fun tq' kq' => XS.icmpYes X0.here hx rfl (pc0 := 189) (pc' := 200) rfl (hb hby d2_189) rfl (own_blt rfl (by decide) hc189_51).1 (by decide) (by decide) kq') ?_
                            show OwnGo _ _ _ _ (s₁.setTop (mkF m 200 #[.val (.int cc)] []))
                            refine OwnGo.fwd (fun tq' kq' => XS.iconst X0.here hx rfl (hb hby d2_200) kq') ?_
                            show OwnGo _ _ _ _ (s₁.setTop (mkF m 201 #[.val (.int cc)] [(.int (0 : Int32))]))
                            exact own_retZ X0 hlk hx Bd.returns (hb hby d2_201) (by decide) (by decide) e0 ⟨by rw [own_gp0 (if hq : cc.toInt < 894 then (own_in6 (by omega) (by omega)) else (own_in7 (by omega) (by omega)))]; rfl, N, rfl⟩
                          · refine OwnGo.fwd (fun tq' kq' => XS.icmpNo X0.here hx rfl (hb hby d2_98) rfl (own_bnlt rfl (by decide) hc98_45).1 kq') ?_
                            show OwnGo _ _ _ _ (s₁.setTop (mkF m 101 #[.val (.int cc)] []))
                            refine OwnGo.fwd (fun tq' kq' => XS.iloadN X0.here hx rfl (hb hby d2_101) rfl kq') ?_
                            show OwnGo _ _ _ _ (s₁.setTop (mkF m 102 #[.val (.int cc)] [(.int cc)]))
                            refine OwnGo.fwd (fun tq' kq' => XS.sipush X0.here hx rfl (hb hby d2_102) kq') ?_
                            show OwnGo _ _ _ _ (s₁.setTop (mkF m 105 #[.val (.int cc)] [(.int (8203 : Int32)), (.int cc)]))
                            by_cases hc105_52 : 8203 < cc.toInt
                            · refine OwnGo.fwd (fun tq' kq' => XS.icmpYes X0.here hx rfl (pc0 := 105) (pc' := 110) rfl (hb hby d2_105) rfl (own_blt (by decide) rfl hc105_52).2.2.1 (by decide) (by decide) kq') ?_
                              show OwnGo _ _ _ _ (s₁.setTop (mkF m 110 #[.val (.int cc)] []))
                              refine OwnGo.fwd (fun tq' kq' => XS.iloadN X0.here hx rfl (hb hby d2_110) rfl kq') ?_
                              show OwnGo _ _ _ _ (s₁.setTop (mkF m 111 #[.val (.int cc)] [(.int cc)]))
                              refine OwnGo.fwd (fun tq' kq' => XS.sipush X0.here hx rfl (hb hby d2_111) kq') ?_
                              show OwnGo _ _ _ _ (s₁.setTop (mkF m 114 #[.val (.int cc)] [(.int (8206 : Int32)), (.int cc)]))
                              by_cases hc114_53 : cc.toInt < 8206
                              · refine OwnGo.fwd (fun tq' kq' => XS.icmpYes X0.here hx rfl (pc0 := 114) (pc' := 126) rfl (hb hby d2_114) rfl (own_blt rfl (by decide) hc114_53).1 (by decide) (by decide) kq') ?_
                                show OwnGo _ _ _ _ (s₁.setTop (mkF m 126 #[.val (.int cc)] []))
                                refine OwnGo.fwd (fun tq' kq' => XS.iloadN X0.here hx rfl (hb hby d2_126) rfl kq') ?_
                                show OwnGo _ _ _ _ (s₁.setTop (mkF m 127 #[.val (.int cc)] [(.int cc)]))
                                refine OwnGo.fwd (fun tq' kq' => XS.sipush X0.here hx rfl (hb hby d2_127) kq') ?_
                                show OwnGo _ _ _ _ (s₁.setTop (mkF m 130 #[.val (.int cc)] [(.int (8592 : Int32)), (.int cc)]))
                                have hc130_54 : cc.toInt < 8592 := own_b1 (Int.le_sub_one_of_lt hc114_53) (by decide)
                                refine OwnGo.fwd (fun tq' kq' => XS.icmpYes X0.here hx rfl (pc0 := 130) (pc' := 142) rfl (hb hby d2_130) rfl (own_blt rfl (by decide) hc130_54).1 (by decide) (by decide) kq') ?_
                                show OwnGo _ _ _ _ (s₁.setTop (mkF m 142 #[.val (.int cc)] []))
                                refine OwnGo.fwd (fun tq' kq' => XS.iloadN X0.here hx rfl (hb hby d2_142) rfl kq') ?_
                                show OwnGo _ _ _ _ (s₁.setTop (mkF m 143 #[.val (.int cc)] [(.int cc)]))
                                refine OwnGo.fwd (fun tq' kq' => XS.sipush X0.here hx rfl (hb hby d2_143) kq') ?_
                                show OwnGo _ _ _ _ (s₁.setTop (mkF m 146 #[.val (.int cc)] [(.int (12272 : Int32)), (.int cc)]))
                                have hc146_55 : cc.toInt < 12272 := own_b1 (Int.le_sub_one_of_lt hc114_53) (by decide)
                                refine OwnGo.fwd (fun tq' kq' => XS.icmpYes X0.here hx rfl (pc0 := 146) (pc' := 158) rfl (hb hby d2_146) rfl (own_blt rfl (by decide) hc146_55).1 (by decide) (by decide) kq') ?_
                                show OwnGo _ _ _ _ (s₁.setTop (mkF m 158 #[.val (.int cc)] []))
                                refine OwnGo.fwd (fun tq' kq' => XS.iloadN X0.here hx rfl (hb hby d2_158) rfl kq') ?_
                                show OwnGo _ _ _ _ (s₁.setTop (mkF m 159 #[.val (.int cc)] [(.int cc)]))
                                refine OwnGo.fwd (fun tq' kq' => X0.ldcInt hx hown (mvT hZ (hw _ (List.mem_of_getElem? (i := 21) rfl))) (g := (mkF m 159 #[.val (.int cc)] [(.int cc)])) rfl (hb hby d2_159) tq' kq') ?_
                                show OwnGo _ _ _ _ (s₁.setTop (mkF m 161 #[.val (.int cc)] [(.int (55296 : Int32)), (.int cc)]))
                                have hc161_56 : cc.toInt < 55296 := own_b1 (Int.le_sub_one_of_lt hc114_53) (by decide)
                                refine OwnGo.fwd (fun tq' kq' => XS.icmpYes X0.here hx rfl (pc0 := 161) (pc' := 172) rfl (hb hby d2_161) rfl (own_blt rfl (by decide) hc161_56).1 (by decide) (by decide) kq') ?_
                                show OwnGo _ _ _ _ (s₁.setTop (mkF m 172 #[.val (.int cc)] []))
                                refine OwnGo.fwd (fun tq' kq' => XS.iloadN X0.here hx rfl (hb hby d2_172) rfl kq') ?_
                                show OwnGo _ _ _ _ (s₁.setTop (mkF m 173 #[.val (.int cc)] [(.int cc)]))
                                refine OwnGo.fwd (fun tq' kq' => X0.ldcInt hx hown (mvT hZ (hw _ (List.mem_of_getElem? (i := 22) rfl))) (g := (mkF m 173 #[.val (.int cc)] [(.int cc)])) rfl (hb hby d2_173) tq' kq') ?_
                                show OwnGo _ _ _ _ (s₁.setTop (mkF m 175 #[.val (.int cc)] [(.int (64976 : Int32)), (.int cc)]))
                                have hc175_57 : cc.toInt < 64976 := own_b1 (Int.le_sub_one_of_lt hc114_53) (by decide)
                                refine OwnGo.fwd (fun tq' kq' => XS.icmpYes X0.here hx rfl (pc0 := 175) (pc' := 186) rfl (hb hby d2_175) rfl (own_blt rfl (by decide) hc175_57).1 (by decide) (by decide) kq') ?_
                                show OwnGo _ _ _ _ (s₁.setTop (mkF m 186 #[.val (.int cc)] []))
                                refine OwnGo.fwd (fun tq' kq' => XS.iloadN X0.here hx rfl (hb hby d2_186) rfl kq') ?_
                                show OwnGo _ _ _ _ (s₁.setTop (mkF m 187 #[.val (.int cc)] [(.int cc)]))
                                refine OwnGo.fwd (fun tq' kq' => X0.ldcInt hx hown (mvT hZ (hw _ (List.mem_of_getElem? (i := 23) rfl))) (g := (mkF m 187 #[.val (.int cc)] [(.int cc)])) rfl (hb hby d2_187) tq' kq') ?_
                                show OwnGo _ _ _ _ (s₁.setTop (mkF m 189 #[.val (.int cc)] [(.int (65534 : Int32)), (.int cc)]))
                                have hc189_58 : cc.toInt < 65534 := own_b1 (Int.le_sub_one_of_lt hc114_53) (by decide)
                                refine OwnGo.fwd (fun tq' kq' => XS.icmpYes X0.here hx rfl (pc0 := 189) (pc' := 200) rfl (hb hby d2_189) rfl (own_blt rfl (by decide) hc189_58).1 (by decide) (by decide) kq') ?_
                                show OwnGo _ _ _ _ (s₁.setTop (mkF m 200 #[.val (.int cc)] []))
                                refine OwnGo.fwd (fun tq' kq' => XS.iconst X0.here hx rfl (hb hby d2_200) kq') ?_
                                show OwnGo _ _ _ _ (s₁.setTop (mkF m 201 #[.val (.int cc)] [(.int (0 : Int32))]))
                                exact own_retZ X0 hlk hx Bd.returns (hb hby d2_201) (by decide) (by decide) e0 ⟨by rw [own_gp0 (own_in8 (by omega) (by omega))]; rfl, N, rfl⟩
                              · refine OwnGo.fwd (fun tq' kq' => XS.icmpNo X0.here hx rfl (hb hby d2_114) rfl (own_bnlt rfl (by decide) hc114_53).1 kq') ?_
                                show OwnGo _ _ _ _ (s₁.setTop (mkF m 117 #[.val (.int cc)] []))
                                refine OwnGo.fwd (fun tq' kq' => XS.iloadN X0.here hx rfl (hb hby d2_117) rfl kq') ?_
                                show OwnGo _ _ _ _ (s₁.setTop (mkF m 118 #[.val (.int cc)] [(.int cc)]))
                                refine OwnGo.fwd (fun tq' kq' => XS.sipush X0.here hx rfl (hb hby d2_118) kq') ?_
                                show OwnGo _ _ _ _ (s₁.setTop (mkF m 121 #[.val (.int cc)] [(.int (8303 : Int32)), (.int cc)]))
                                by_cases hc121_59 : 8303 < cc.toInt
                                · refine OwnGo.fwd (fun tq' kq' => XS.icmpYes X0.here hx rfl (pc0 := 121) (pc' := 126) rfl (hb hby d2_121) rfl (own_blt (by decide) rfl hc121_59).2.2.1 (by decide) (by decide) kq') ?_
                                  show OwnGo _ _ _ _ (s₁.setTop (mkF m 126 #[.val (.int cc)] []))
                                  refine OwnGo.fwd (fun tq' kq' => XS.iloadN X0.here hx rfl (hb hby d2_126) rfl kq') ?_
                                  show OwnGo _ _ _ _ (s₁.setTop (mkF m 127 #[.val (.int cc)] [(.int cc)]))
                                  refine OwnGo.fwd (fun tq' kq' => XS.sipush X0.here hx rfl (hb hby d2_127) kq') ?_
                                  show OwnGo _ _ _ _ (s₁.setTop (mkF m 130 #[.val (.int cc)] [(.int (8592 : Int32)), (.int cc)]))
                                  by_cases hc130_60 : cc.toInt < 8592
                                  · refine OwnGo.fwd (fun tq' kq' => XS.icmpYes X0.here hx rfl (pc0 := 130) (pc' := 142) rfl (hb hby d2_130) rfl (own_blt rfl (by decide) hc130_60).1 (by decide) (by decide) kq') ?_
                                    show OwnGo _ _ _ _ (s₁.setTop (mkF m 142 #[.val (.int cc)] []))
                                    refine OwnGo.fwd (fun tq' kq' => XS.iloadN X0.here hx rfl (hb hby d2_142) rfl kq') ?_
                                    show OwnGo _ _ _ _ (s₁.setTop (mkF m 143 #[.val (.int cc)] [(.int cc)]))
                                    refine OwnGo.fwd (fun tq' kq' => XS.sipush X0.here hx rfl (hb hby d2_143) kq') ?_
                                    show OwnGo _ _ _ _ (s₁.setTop (mkF m 146 #[.val (.int cc)] [(.int (12272 : Int32)), (.int cc)]))
                                    have hc146_61 : cc.toInt < 12272 := own_b1 (Int.le_sub_one_of_lt hc130_60) (by decide)
                                    refine OwnGo.fwd (fun tq' kq' => XS.icmpYes X0.here hx rfl (pc0 := 146) (pc' := 158) rfl (hb hby d2_146) rfl (own_blt rfl (by decide) hc146_61).1 (by decide) (by decide) kq') ?_
                                    show OwnGo _ _ _ _ (s₁.setTop (mkF m 158 #[.val (.int cc)] []))
                                    refine OwnGo.fwd (fun tq' kq' => XS.iloadN X0.here hx rfl (hb hby d2_158) rfl kq') ?_
                                    show OwnGo _ _ _ _ (s₁.setTop (mkF m 159 #[.val (.int cc)] [(.int cc)]))
                                    refine OwnGo.fwd (fun tq' kq' => X0.ldcInt hx hown (mvT hZ (hw _ (List.mem_of_getElem? (i := 21) rfl))) (g := (mkF m 159 #[.val (.int cc)] [(.int cc)])) rfl (hb hby d2_159) tq' kq') ?_
                                    show OwnGo _ _ _ _ (s₁.setTop (mkF m 161 #[.val (.int cc)] [(.int (55296 : Int32)), (.int cc)]))
                                    have hc161_62 : cc.toInt < 55296 := own_b1 (Int.le_sub_one_of_lt hc130_60) (by decide)
                                    refine OwnGo.fwd (fun tq' kq' => XS.icmpYes X0.here hx rfl (pc0 := 161) (pc' := 172) rfl (hb hby d2_161) rfl (own_blt rfl (by decide) hc161_62).1 (by decide) (by decide) kq') ?_
                                    show OwnGo _ _ _ _ (s₁.setTop (mkF m 172 #[.val (.int cc)] []))
                                    refine OwnGo.fwd (fun tq' kq' => XS.iloadN X0.here hx rfl (hb hby d2_172) rfl kq') ?_
                                    show OwnGo _ _ _ _ (s₁.setTop (mkF m 173 #[.val (.int cc)] [(.int cc)]))
                                    refine OwnGo.fwd (fun tq' kq' => X0.ldcInt hx hown (mvT hZ (hw _ (List.mem_of_getElem? (i := 22) rfl))) (g := (mkF m 173 #[.val (.int cc)] [(.int cc)])) rfl (hb hby d2_173) tq' kq') ?_
                                    show OwnGo _ _ _ _ (s₁.setTop (mkF m 175 #[.val (.int cc)] [(.int (64976 : Int32)), (.int cc)]))
                                    have hc175_63 : cc.toInt < 64976 := own_b1 (Int.le_sub_one_of_lt hc130_60) (by decide)
                                    refine OwnGo.fwd (fun tq' kq' => XS.icmpYes X0.here hx rfl (pc0 := 175) (pc' := 186) rfl (hb hby d2_175) rfl (own_blt rfl (by decide) hc175_63).1 (by decide) (by decide) kq') ?_
                                    show OwnGo _ _ _ _ (s₁.setTop (mkF m 186 #[.val (.int cc)] []))
                                    refine OwnGo.fwd (fun tq' kq' => XS.iloadN X0.here hx rfl (hb hby d2_186) rfl kq') ?_
                                    show OwnGo _ _ _ _ (s₁.setTop (mkF m 187 #[.val (.int cc)] [(.int cc)]))
                                    refine OwnGo.fwd (fun tq' kq' => X0.ldcInt hx hown (mvT hZ (hw _ (List.mem_of_getElem? (i := 23) rfl))) (g := (mkF m 187 #[.val (.int cc)] [(.int cc)])) rfl (hb hby d2_187) tq' kq') ?_
                                    show OwnGo _ _ _ _ (s₁.setTop (mkF m 189 #[.val (.int cc)] [(.int (65534 : Int32)), (.int cc)]))
                                    have hc189_64 : cc.toInt < 65534 := own_b1 (Int.le_sub_one_of_lt hc130_60) (by decide)
                                    refine OwnGo.fwd (fun tq' kq' => XS.icmpYes X0.here hx rfl (pc0 := 189) (pc' := 200) rfl (hb hby d2_189) rfl (own_blt rfl (by decide) hc189_64).1 (by decide) (by decide) kq') ?_
                                    show OwnGo _ _ _ _ (s₁.setTop (mkF m 200 #[.val (.int cc)] []))
                                    refine OwnGo.fwd (fun tq' kq' => XS.iconst X0.here hx rfl (hb hby d2_200) kq') ?_
                                    show OwnGo _ _ _ _ (s₁.setTop (mkF m 201 #[.val (.int cc)] [(.int (0 : Int32))]))
                                    exact own_retZ X0 hlk hx Bd.returns (hb hby d2_201) (by decide) (by decide) e0 ⟨by rw [own_gp0 (own_in9 (by omega) (by omega))]; rfl, N, rfl⟩
                                  · refine OwnGo.fwd (fun tq' kq' => XS.icmpNo X0.here hx rfl (hb hby d2_130) rfl (own_bnlt rfl (by decide) hc130_60).1 kq') ?_
                                    show OwnGo _ _ _ _ (s₁.setTop (mkF m 133 #[.val (.int cc)] []))
                                    refine OwnGo.fwd (fun tq' kq' => XS.iloadN X0.here hx rfl (hb hby d2_133) rfl kq') ?_
                                    show OwnGo _ _ _ _ (s₁.setTop (mkF m 134 #[.val (.int cc)] [(.int cc)]))
                                    refine OwnGo.fwd (fun tq' kq' => XS.sipush X0.here hx rfl (hb hby d2_134) kq') ?_
                                    show OwnGo _ _ _ _ (s₁.setTop (mkF m 137 #[.val (.int cc)] [(.int (11263 : Int32)), (.int cc)]))
                                    by_cases hc137_65 : 11263 < cc.toInt
                                    · refine OwnGo.fwd (fun tq' kq' => XS.icmpYes X0.here hx rfl (pc0 := 137) (pc' := 142) rfl (hb hby d2_137) rfl (own_blt (by decide) rfl hc137_65).2.2.1 (by decide) (by decide) kq') ?_
                                      show OwnGo _ _ _ _ (s₁.setTop (mkF m 142 #[.val (.int cc)] []))
                                      refine OwnGo.fwd (fun tq' kq' => XS.iloadN X0.here hx rfl (hb hby d2_142) rfl kq') ?_
                                      show OwnGo _ _ _ _ (s₁.setTop (mkF m 143 #[.val (.int cc)] [(.int cc)]))
                                      refine OwnGo.fwd (fun tq' kq' => XS.sipush X0.here hx rfl (hb hby d2_143) kq') ?_
                                      show OwnGo _ _ _ _ (s₁.setTop (mkF m 146 #[.val (.int cc)] [(.int (12272 : Int32)), (.int cc)]))
                                      by_cases hc146_66 : cc.toInt < 12272
                                      · refine OwnGo.fwd (fun tq' kq' => XS.icmpYes X0.here hx rfl (pc0 := 146) (pc' := 158) rfl (hb hby d2_146) rfl (own_blt rfl (by decide) hc146_66).1 (by decide) (by decide) kq') ?_
                                        show OwnGo _ _ _ _ (s₁.setTop (mkF m 158 #[.val (.int cc)] []))
                                        refine OwnGo.fwd (fun tq' kq' => XS.iloadN X0.here hx rfl (hb hby d2_158) rfl kq') ?_
                                        show OwnGo _ _ _ _ (s₁.setTop (mkF m 159 #[.val (.int cc)] [(.int cc)]))
                                        refine OwnGo.fwd (fun tq' kq' => X0.ldcInt hx hown (mvT hZ (hw _ (List.mem_of_getElem? (i := 21) rfl))) (g := (mkF m 159 #[.val (.int cc)] [(.int cc)])) rfl (hb hby d2_159) tq' kq') ?_
                                        show OwnGo _ _ _ _ (s₁.setTop (mkF m 161 #[.val (.int cc)] [(.int (55296 : Int32)), (.int cc)]))
                                        have hc161_67 : cc.toInt < 55296 := own_b1 (Int.le_sub_one_of_lt hc146_66) (by decide)
                                        refine OwnGo.fwd (fun tq' kq' => XS.icmpYes X0.here hx rfl (pc0 := 161) (pc' := 172) rfl (hb hby d2_161) rfl (own_blt rfl (by decide) hc161_67).1 (by decide) (by decide) kq') ?_
                                        show OwnGo _ _ _ _ (s₁.setTop (mkF m 172 #[.val (.int cc)] []))
                                        refine OwnGo.fwd (fun tq' kq' => XS.iloadN X0.here hx rfl (hb hby d2_172) rfl kq') ?_
                                        show OwnGo _ _ _ _ (s₁.setTop (mkF m 173 #[.val (.int cc)] [(.int cc)]))
                                        refine OwnGo.fwd (fun tq' kq' => X0.ldcInt hx hown (mvT hZ (hw _ (List.mem_of_getElem? (i := 22) rfl))) (g := (mkF m 173 #[.val (.int cc)] [(.int cc)])) rfl (hb hby d2_173) tq' kq') ?_
                                        show OwnGo _ _ _ _ (s₁.setTop (mkF m 175 #[.val (.int cc)] [(.int (64976 : Int32)), (.int cc)]))
                                        have hc175_68 : cc.toInt < 64976 := own_b1 (Int.le_sub_one_of_lt hc146_66) (by decide)
                                        refine OwnGo.fwd (fun tq' kq' => XS.icmpYes X0.here hx rfl (pc0 := 175) (pc' := 186) rfl (hb hby d2_175) rfl (own_blt rfl (by decide) hc175_68).1 (by decide) (by decide) kq') ?_
                                        show OwnGo _ _ _ _ (s₁.setTop (mkF m 186 #[.val (.int cc)] []))
                                        refine OwnGo.fwd (fun tq' kq' => XS.iloadN X0.here hx rfl (hb hby d2_186) rfl kq') ?_
                                        show OwnGo _ _ _ _ (s₁.setTop (mkF m 187 #[.val (.int cc)] [(.int cc)]))
                                        refine OwnGo.fwd (fun tq' kq' => X0.ldcInt hx hown (mvT hZ (hw _ (List.mem_of_getElem? (i := 23) rfl))) (g := (mkF m 187 #[.val (.int cc)] [(.int cc)])) rfl (hb hby d2_187) tq' kq') ?_
                                        show OwnGo _ _ _ _ (s₁.setTop (mkF m 189 #[.val (.int cc)] [(.int (65534 : Int32)), (.int cc)]))
                                        have hc189_69 : cc.toInt < 65534 := own_b1 (Int.le_sub_one_of_lt hc146_66) (by decide)
                                        refine OwnGo.fwd (fun tq' kq' => XS.icmpYes X0.here hx rfl (pc0 := 189) (pc' := 200) rfl (hb hby d2_189) rfl (own_blt rfl (by decide) hc189_69).1 (by decide) (by decide) kq') ?_
                                        show OwnGo _ _ _ _ (s₁.setTop (mkF m 200 #[.val (.int cc)] []))
                                        refine OwnGo.fwd (fun tq' kq' => XS.iconst X0.here hx rfl (hb hby d2_200) kq') ?_
                                        show OwnGo _ _ _ _ (s₁.setTop (mkF m 201 #[.val (.int cc)] [(.int (0 : Int32))]))
                                        exact own_retZ X0 hlk hx Bd.returns (hb hby d2_201) (by decide) (by decide) e0 ⟨by rw [own_gp0 (own_in10 (by omega) (by omega))]; rfl, N, rfl⟩
                                      · refine OwnGo.fwd (fun tq' kq' => XS.icmpNo X0.here hx rfl (hb hby d2_146) rfl (own_bnlt rfl (by decide) hc146_66).1 kq') ?_
                                        show OwnGo _ _ _ _ (s₁.setTop (mkF m 149 #[.val (.int cc)] []))
                                        refine OwnGo.fwd (fun tq' kq' => XS.iloadN X0.here hx rfl (hb hby d2_149) rfl kq') ?_
                                        show OwnGo _ _ _ _ (s₁.setTop (mkF m 150 #[.val (.int cc)] [(.int cc)]))
                                        refine OwnGo.fwd (fun tq' kq' => XS.sipush X0.here hx rfl (hb hby d2_150) kq') ?_
                                        show OwnGo _ _ _ _ (s₁.setTop (mkF m 153 #[.val (.int cc)] [(.int (12288 : Int32)), (.int cc)]))
                                        by_cases hc153_70 : 12288 < cc.toInt
                                        · refine OwnGo.fwd (fun tq' kq' => XS.icmpYes X0.here hx rfl (pc0 := 153) (pc' := 158) rfl (hb hby d2_153) rfl (own_blt (by decide) rfl hc153_70).2.2.1 (by decide) (by decide) kq') ?_
                                          show OwnGo _ _ _ _ (s₁.setTop (mkF m 158 #[.val (.int cc)] []))
                                          refine OwnGo.fwd (fun tq' kq' => XS.iloadN X0.here hx rfl (hb hby d2_158) rfl kq') ?_
                                          show OwnGo _ _ _ _ (s₁.setTop (mkF m 159 #[.val (.int cc)] [(.int cc)]))
                                          refine OwnGo.fwd (fun tq' kq' => X0.ldcInt hx hown (mvT hZ (hw _ (List.mem_of_getElem? (i := 21) rfl))) (g := (mkF m 159 #[.val (.int cc)] [(.int cc)])) rfl (hb hby d2_159) tq' kq') ?_
                                          show OwnGo _ _ _ _ (s₁.setTop (mkF m 161 #[.val (.int cc)] [(.int (55296 : Int32)), (.int cc)]))
                                          by_cases hc161_71 : cc.toInt < 55296
                                          · refine OwnGo.fwd (fun tq' kq' => XS.icmpYes X0.here hx rfl (pc0 := 161) (pc' := 172) rfl (hb hby d2_161) rfl (own_blt rfl (by decide) hc161_71).1 (by decide) (by decide) kq') ?_
                                            show OwnGo _ _ _ _ (s₁.setTop (mkF m 172 #[.val (.int cc)] []))
                                            refine OwnGo.fwd (fun tq' kq' => XS.iloadN X0.here hx rfl (hb hby d2_172) rfl kq') ?_
                                            show OwnGo _ _ _ _ (s₁.setTop (mkF m 173 #[.val (.int cc)] [(.int cc)]))
                                            refine OwnGo.fwd (fun tq' kq' => X0.ldcInt hx hown (mvT hZ (hw _ (List.mem_of_getElem? (i := 22) rfl))) (g := (mkF m 173 #[.val (.int cc)] [(.int cc)])) rfl (hb hby d2_173) tq' kq') ?_
                                            show OwnGo _ _ _ _ (s₁.setTop (mkF m 175 #[.val (.int cc)] [(.int (64976 : Int32)), (.int cc)]))
                                            have hc175_72 : cc.toInt < 64976 := own_b1 (Int.le_sub_one_of_lt hc161_71) (by decide)
                                            refine OwnGo.fwd (fun tq' kq' => XS.icmpYes X0.here hx rfl (pc0 := 175) (pc' := 186) rfl (hb hby d2_175) rfl (own_blt rfl (by decide) hc175_72).1 (by decide) (by decide) kq') ?_
                                            show OwnGo _ _ _ _ (s₁.setTop (mkF m 186 #[.val (.int cc)] []))
                                            refine OwnGo.fwd (fun tq' kq' => XS.iloadN X0.here hx rfl (hb hby d2_186) rfl kq') ?_
                                            show OwnGo _ _ _ _ (s₁.setTop (mkF m 187 #[.val (.int cc)] [(.int cc)]))
                                            refine OwnGo.fwd (fun tq' kq' => X0.ldcInt hx hown (mvT hZ (hw _ (List.mem_of_getElem? (i := 23) rfl))) (g := (mkF m 187 #[.val (.int cc)] [(.int cc)])) rfl (hb hby d2_187) tq' kq') ?_
                                            show OwnGo _ _ _ _ (s₁.setTop (mkF m 189 #[.val (.int cc)] [(.int (65534 : Int32)), (.int cc)]))
                                            have hc189_73 : cc.toInt < 65534 := own_b1 (Int.le_sub_one_of_lt hc161_71) (by decide)
                                            refine OwnGo.fwd (fun tq' kq' => XS.icmpYes X0.here hx rfl (pc0 := 189) (pc' := 200) rfl (hb hby d2_189) rfl (own_blt rfl (by decide) hc189_73).1 (by decide) (by decide) kq') ?_
                                            show OwnGo _ _ _ _ (s₁.setTop (mkF m 200 #[.val (.int cc)] []))
                                            refine OwnGo.fwd (fun tq' kq' => XS.iconst X0.here hx rfl (hb hby d2_200) kq') ?_
                                            show OwnGo _ _ _ _ (s₁.setTop (mkF m 201 #[.val (.int cc)] [(.int (0 : Int32))]))
                                            exact own_retZ X0 hlk hx Bd.returns (hb hby d2_201) (by decide) (by decide) e0 ⟨by rw [own_gp0 (own_in11 (by omega) (by omega))]; rfl, N, rfl⟩
                                          · refine OwnGo.fwd (fun tq' kq' => XS.icmpNo X0.here hx rfl (hb hby d2_161) rfl (own_bnlt rfl (by decide) hc161_71).1 kq') ?_
                                            show OwnGo _ _ _ _ (s₁.setTop (mkF m 164 #[.val (.int cc)] []))
                                            refine OwnGo.fwd (fun tq' kq' => XS.iloadN X0.here hx rfl (hb hby d2_164) rfl kq') ?_
                                            show OwnGo _ _ _ _ (s₁.setTop (mkF m 165 #[.val (.int cc)] [(.int cc)]))
                                            refine OwnGo.fwd (fun tq' kq' => X0.ldcInt hx hown (mvT hZ (hw _ (List.mem_of_getElem? (i := 26) rfl))) (g := (mkF m 165 #[.val (.int cc)] [(.int cc)])) rfl (hb hby d2_165) tq' kq') ?_
                                            show OwnGo _ _ _ _ (s₁.setTop (mkF m 167 #[.val (.int cc)] [(.int (63743 : Int32)), (.int cc)]))
                                            by_cases hc167_74 : 63743 < cc.toInt
                                            · refine OwnGo.fwd (fun tq' kq' => XS.icmpYes X0.here hx rfl (pc0 := 167) (pc' := 172) rfl (hb hby d2_167) rfl (own_blt (by decide) rfl hc167_74).2.2.1 (by decide) (by decide) kq') ?_
                                              show OwnGo _ _ _ _ (s₁.setTop (mkF m 172 #[.val (.int cc)] []))
                                              refine OwnGo.fwd (fun tq' kq' => XS.iloadN X0.here hx rfl (hb hby d2_172) rfl kq') ?_
                                              show OwnGo _ _ _ _ (s₁.setTop (mkF m 173 #[.val (.int cc)] [(.int cc)]))
                                              refine OwnGo.fwd (fun tq' kq' => X0.ldcInt hx hown (mvT hZ (hw _ (List.mem_of_getElem? (i := 22) rfl))) (g := (mkF m 173 #[.val (.int cc)] [(.int cc)])) rfl (hb hby d2_173) tq' kq') ?_
                                              show OwnGo _ _ _ _ (s₁.setTop (mkF m 175 #[.val (.int cc)] [(.int (64976 : Int32)), (.int cc)]))
                                              by_cases hc175_75 : cc.toInt < 64976
                                              · refine OwnGo.fwd (fun tq' kq' => XS.icmpYes X0.here hx rfl (pc0 := 175) (pc' := 186) rfl (hb hby d2_175) rfl (own_blt rfl (by decide) hc175_75).1 (by decide) (by decide) kq') ?_
                                                show OwnGo _ _ _ _ (s₁.setTop (mkF m 186 #[.val (.int cc)] []))
                                                refine OwnGo.fwd (fun tq' kq' => XS.iloadN X0.here hx rfl (hb hby d2_186) rfl kq') ?_
                                                show OwnGo _ _ _ _ (s₁.setTop (mkF m 187 #[.val (.int cc)] [(.int cc)]))
                                                refine OwnGo.fwd (fun tq' kq' => X0.ldcInt hx hown (mvT hZ (hw _ (List.mem_of_getElem? (i := 23) rfl))) (g := (mkF m 187 #[.val (.int cc)] [(.int cc)])) rfl (hb hby d2_187) tq' kq') ?_
                                                show OwnGo _ _ _ _ (s₁.setTop (mkF m 189 #[.val (.int cc)] [(.int (65534 : Int32)), (.int cc)]))
                                                have hc189_76 : cc.toInt < 65534 := own_b1 (Int.le_sub_one_of_lt hc175_75) (by decide)
                                                refine OwnGo.fwd (fun tq' kq' => XS.icmpYes X0.here hx rfl (pc0 := 189) (pc' := 200) rfl (hb hby d2_189) rfl (own_blt rfl (by decide) hc189_76).1 (by decide) (by decide) kq') ?_
                                                show OwnGo _ _ _ _ (s₁.setTop (mkF m 200 #[.val (.int cc)] []))
                                                refine OwnGo.fwd (fun tq' kq' => XS.iconst X0.here hx rfl (hb hby d2_200) kq') ?_
                                                show OwnGo _ _ _ _ (s₁.setTop (mkF m 201 #[.val (.int cc)] [(.int (0 : Int32))]))
                                                exact own_retZ X0 hlk hx Bd.returns (hb hby d2_201) (by decide) (by decide) e0 ⟨by rw [own_gp0 (own_in12 (by omega) (by omega))]; rfl, N, rfl⟩
                                              · refine OwnGo.fwd (fun tq' kq' => XS.icmpNo X0.here hx rfl (hb hby d2_175) rfl (own_bnlt rfl (by decide) hc175_75).1 kq') ?_
                                                show OwnGo _ _ _ _ (s₁.setTop (mkF m 178 #[.val (.int cc)] []))
                                                refine OwnGo.fwd (fun tq' kq' => XS.iloadN X0.here hx rfl (hb hby d2_178) rfl kq') ?_
                                                show OwnGo _ _ _ _ (s₁.setTop (mkF m 179 #[.val (.int cc)] [(.int cc)]))
                                                refine OwnGo.fwd (fun tq' kq' => X0.ldcInt hx hown (mvT hZ (hw _ (List.mem_of_getElem? (i := 29) rfl))) (g := (mkF m 179 #[.val (.int cc)] [(.int cc)])) rfl (hb hby d2_179) tq' kq') ?_
                                                show OwnGo _ _ _ _ (s₁.setTop (mkF m 181 #[.val (.int cc)] [(.int (65007 : Int32)), (.int cc)]))
                                                by_cases hc181_77 : 65007 < cc.toInt
                                                · refine OwnGo.fwd (fun tq' kq' => XS.icmpYes X0.here hx rfl (pc0 := 181) (pc' := 186) rfl (hb hby d2_181) rfl (own_blt (by decide) rfl hc181_77).2.2.1 (by decide) (by decide) kq') ?_
                                                  show OwnGo _ _ _ _ (s₁.setTop (mkF m 186 #[.val (.int cc)] []))
                                                  refine OwnGo.fwd (fun tq' kq' => XS.iloadN X0.here hx rfl (hb hby d2_186) rfl kq') ?_
                                                  show OwnGo _ _ _ _ (s₁.setTop (mkF m 187 #[.val (.int cc)] [(.int cc)]))
                                                  refine OwnGo.fwd (fun tq' kq' => X0.ldcInt hx hown (mvT hZ (hw _ (List.mem_of_getElem? (i := 23) rfl))) (g := (mkF m 187 #[.val (.int cc)] [(.int cc)])) rfl (hb hby d2_187) tq' kq') ?_
                                                  show OwnGo _ _ _ _ (s₁.setTop (mkF m 189 #[.val (.int cc)] [(.int (65534 : Int32)), (.int cc)]))
                                                  by_cases hc189_78 : cc.toInt < 65534
                                                  · refine OwnGo.fwd (fun tq' kq' => XS.icmpYes X0.here hx rfl (pc0 := 189) (pc' := 200) rfl (hb hby d2_189) rfl (own_blt rfl (by decide) hc189_78).1 (by decide) (by decide) kq') ?_
                                                    show OwnGo _ _ _ _ (s₁.setTop (mkF m 200 #[.val (.int cc)] []))
                                                    refine OwnGo.fwd (fun tq' kq' => XS.iconst X0.here hx rfl (hb hby d2_200) kq') ?_
                                                    show OwnGo _ _ _ _ (s₁.setTop (mkF m 201 #[.val (.int cc)] [(.int (0 : Int32))]))
                                                    exact own_retZ X0 hlk hx Bd.returns (hb hby d2_201) (by decide) (by decide) e0 ⟨by rw [own_gp0 (own_in13 (by omega) (by omega))]; rfl, N, rfl⟩
                                                  · refine OwnGo.fwd (fun tq' kq' => XS.icmpNo X0.here hx rfl (hb hby d2_189) rfl (own_bnlt rfl (by decide) hc189_78).1 kq') ?_
                                                    show OwnGo _ _ _ _ (s₁.setTop (mkF m 192 #[.val (.int cc)] []))
                                                    refine OwnGo.fwd (fun tq' kq' => XS.iloadN X0.here hx rfl (hb hby d2_192) rfl kq') ?_
                                                    show OwnGo _ _ _ _ (s₁.setTop (mkF m 193 #[.val (.int cc)] [(.int cc)]))
                                                    refine OwnGo.fwd (fun tq' kq' => X0.ldcInt hx hown (mvT hZ (hw _ (List.mem_of_getElem? (i := 30) rfl))) (g := (mkF m 193 #[.val (.int cc)] [(.int cc)])) rfl (hb hby d2_193) tq' kq') ?_
                                                    show OwnGo _ _ _ _ (s₁.setTop (mkF m 195 #[.val (.int cc)] [(.int (65535 : Int32)), (.int cc)]))
                                                    by_cases hc195_79 : 65535 < cc.toInt
                                                    · refine OwnGo.fwd (fun tq' kq' => XS.icmpYes X0.here hx rfl (pc0 := 195) (pc' := 200) rfl (hb hby d2_195) rfl (own_blt (by decide) rfl hc195_79).2.2.1 (by decide) (by decide) kq') ?_
                                                      show OwnGo _ _ _ _ (s₁.setTop (mkF m 200 #[.val (.int cc)] []))
                                                      refine OwnGo.fwd (fun tq' kq' => XS.iconst X0.here hx rfl (hb hby d2_200) kq') ?_
                                                      show OwnGo _ _ _ _ (s₁.setTop (mkF m 201 #[.val (.int cc)] [(.int (0 : Int32))]))
                                                      exact own_retZ X0 hlk hx Bd.returns (hb hby d2_201) (by decide) (by decide) e0 ⟨by rw [own_gp0 (own_in14 (by omega) (by omega))]; rfl, N, rfl⟩
                                                    · refine OwnGo.fwd (fun tq' kq' => XS.icmpNo X0.here hx rfl (hb hby d2_195) rfl (own_bnlt (by decide) rfl hc195_79).2.2.1 kq') ?_
                                                      show OwnGo _ _ _ _ (s₁.setTop (mkF m 198 #[.val (.int cc)] []))
                                                      refine OwnGo.fwd (fun tq' kq' => XS.iconst X0.here hx rfl (hb hby d2_198) kq') ?_
                                                      show OwnGo _ _ _ _ (s₁.setTop (mkF m 199 #[.val (.int cc)] [(.int (1 : Int32))]))
                                                      exact own_retZ X0 hlk hx Bd.returns (hb hby d2_199) (by decide) (by decide) e0 ⟨by rw [own_gp1 (own_out14 (by omega) (by omega))]; rfl, N, rfl⟩
                                                · refine OwnGo.fwd (fun tq' kq' => XS.icmpNo X0.here hx rfl (hb hby d2_181) rfl (own_bnlt (by decide) rfl hc181_77).2.2.1 kq') ?_
                                                  show OwnGo _ _ _ _ (s₁.setTop (mkF m 184 #[.val (.int cc)] []))
                                                  refine OwnGo.fwd (fun tq' kq' => XS.iconst X0.here hx rfl (hb hby d2_184) kq') ?_
                                                  show OwnGo _ _ _ _ (s₁.setTop (mkF m 185 #[.val (.int cc)] [(.int (1 : Int32))]))
                                                  exact own_retZ X0 hlk hx Bd.returns (hb hby d2_185) (by decide) (by decide) e0 ⟨by rw [own_gp1 (own_out13 (by omega) (by omega))]; rfl, N, rfl⟩
                                            · refine OwnGo.fwd (fun tq' kq' => XS.icmpNo X0.here hx rfl (hb hby d2_167) rfl (own_bnlt (by decide) rfl hc167_74).2.2.1 kq') ?_
                                              show OwnGo _ _ _ _ (s₁.setTop (mkF m 170 #[.val (.int cc)] []))
                                              refine OwnGo.fwd (fun tq' kq' => XS.iconst X0.here hx rfl (hb hby d2_170) kq') ?_
                                              show OwnGo _ _ _ _ (s₁.setTop (mkF m 171 #[.val (.int cc)] [(.int (1 : Int32))]))
                                              exact own_retZ X0 hlk hx Bd.returns (hb hby d2_171) (by decide) (by decide) e0 ⟨by rw [own_gp1 (own_out12 (by omega) (by omega))]; rfl, N, rfl⟩
                                        · refine OwnGo.fwd (fun tq' kq' => XS.icmpNo X0.here hx rfl (hb hby d2_153) rfl (own_bnlt (by decide) rfl hc153_70).2.2.1 kq') ?_
                                          show OwnGo _ _ _ _ (s₁.setTop (mkF m 156 #[.val (.int cc)] []))
                                          refine OwnGo.fwd (fun tq' kq' => XS.iconst X0.here hx rfl (hb hby d2_156) kq') ?_
                                          show OwnGo _ _ _ _ (s₁.setTop (mkF m 157 #[.val (.int cc)] [(.int (1 : Int32))]))
                                          exact own_retZ X0 hlk hx Bd.returns (hb hby d2_157) (by decide) (by decide) e0 ⟨by rw [own_gp1 (own_out11 (by omega) (by omega))]; rfl, N, rfl⟩
                                    · refine OwnGo.fwd (fun tq' kq' => XS.icmpNo X0.here hx rfl (hb hby d2_137) rfl (own_bnlt (by decide) rfl hc137_65).2.2.1 kq') ?_
                                      show OwnGo _ _ _ _ (s₁.setTop (mkF m 140 #[.val (.int cc)] []))
                                      refine OwnGo.fwd (fun tq' kq' => XS.iconst X0.here hx rfl (hb hby d2_140) kq') ?_
                                      show OwnGo _ _ _ _ (s₁.setTop (mkF m 141 #[.val (.int cc)] [(.int (1 : Int32))]))
                                      exact own_retZ X0 hlk hx Bd.returns (hb hby d2_141) (by decide) (by decide) e0 ⟨by rw [own_gp1 (own_out10 (by omega) (by omega))]; rfl, N, rfl⟩
                                · refine OwnGo.fwd (fun tq' kq' => XS.icmpNo X0.here hx rfl (hb hby d2_121) rfl (own_bnlt (by decide) rfl hc121_59).2.2.1 kq') ?_
                                  show OwnGo _ _ _ _ (s₁.setTop (mkF m 124 #[.val (.int cc)] []))
                                  refine OwnGo.fwd (fun tq' kq' => XS.iconst X0.here hx rfl (hb hby d2_124) kq') ?_
                                  show OwnGo _ _ _ _ (s₁.setTop (mkF m 125 #[.val (.int cc)] [(.int (1 : Int32))]))
                                  exact own_retZ X0 hlk hx Bd.returns (hb hby d2_125) (by decide) (by decide) e0 ⟨by rw [own_gp1 (own_out9 (by omega) (by omega))]; rfl, N, rfl⟩
                            · refine OwnGo.fwd (fun tq' kq' => XS.icmpNo X0.here hx rfl (hb hby d2_105) rfl (own_bnlt (by decide) rfl hc105_52).2.2.1 kq') ?_
                              show OwnGo _ _ _ _ (s₁.setTop (mkF m 108 #[.val (.int cc)] []))
                              refine OwnGo.fwd (fun tq' kq' => XS.iconst X0.here hx rfl (hb hby d2_108) kq') ?_
                              show OwnGo _ _ _ _ (s₁.setTop (mkF m 109 #[.val (.int cc)] [(.int (1 : Int32))]))
                              exact own_retZ X0 hlk hx Bd.returns (hb hby d2_109) (by decide) (by decide) e0 ⟨by rw [own_gp1 (own_out8 (by omega) (by omega))]; rfl, N, rfl⟩
                      · refine OwnGo.fwd (fun tq' kq' => XS.icmpNo X0.here hx rfl (hb hby d2_80) rfl (own_bnlt (by decide) rfl hc80_43).2.2.1 kq') ?_
                        show OwnGo _ _ _ _ (s₁.setTop (mkF m 83 #[.val (.int cc)] []))
                        refine OwnGo.fwd (fun tq' kq' => XS.iconst X0.here hx rfl (hb hby d2_83) kq') ?_
                        show OwnGo _ _ _ _ (s₁.setTop (mkF m 84 #[.val (.int cc)] [(.int (1 : Int32))]))
                        exact own_retZ X0 hlk hx Bd.returns (hb hby d2_84) (by decide) (by decide) e0 ⟨by rw [own_gp1 (own_out6 (by omega) (by omega))]; rfl, N, rfl⟩
              · refine OwnGo.fwd (fun tq' kq' => XS.icmpNo X0.here hx rfl (hb hby d2_48) rfl (own_bnlt (by decide) rfl hc48_31).2.2.1 kq') ?_
                show OwnGo _ _ _ _ (s₁.setTop (mkF m 51 #[.val (.int cc)] []))
                refine OwnGo.fwd (fun tq' kq' => XS.iconst X0.here hx rfl (hb hby d2_51) kq') ?_
                show OwnGo _ _ _ _ (s₁.setTop (mkF m 52 #[.val (.int cc)] [(.int (1 : Int32))]))
                exact own_retZ X0 hlk hx Bd.returns (hb hby d2_52) (by decide) (by decide) e0 ⟨by rw [own_gp1 (own_out3 (by omega) (by omega))]; rfl, N, rfl⟩
        · refine OwnGo.fwd (fun tq' kq' => XS.icmpNo X0.here hx rfl (hb hby d2_25) rfl (own_bnlt (by decide) rfl hc25_17).2.2.1 kq') ?_
          show OwnGo _ _ _ _ (s₁.setTop (mkF m 28 #[.val (.int cc)] []))
          refine OwnGo.fwd (fun tq' kq' => XS.iconst X0.here hx rfl (hb hby d2_28) kq') ?_
          show OwnGo _ _ _ _ (s₁.setTop (mkF m 29 #[.val (.int cc)] [(.int (1 : Int32))]))
          exact own_retZ X0 hlk hx Bd.returns (hb hby d2_29) (by decide) (by decide) e0 ⟨by rw [own_gp1 (own_out1 (by omega) (by omega))]; rfl, N, rfl⟩
theorem own_idx (x : Int32) : ∃ i : Nat, ((x &&& (2147483647 : Int32)) % (Int32.ofNat 34)).toInt = i ∧ i < 34 := by
  have q := c_and x (2147483647 : Int32) (by decide)
  have r := (c_irem (x &&& (2147483647 : Int32)) (Int32.ofNat 34) 34 (by decide)).1 q.1
  exact ⟨((x &&& (2147483647 : Int32)) % (Int32.ofNat 34)).toInt.toNat, by omega, by omega⟩
theorem pn_0 : plainFor (⟨"org/axiswarp/xml/XmlCharactersIsNcNameStartCharPinLaw", "law", "(IIII)Z"⟩ : MethodName) = true := plainFor_of_name (by first | (simp [plainName, overriddenIn]; done) | decide +kernel)
theorem ef_0 (m : MethodId) (x0 : Int32) (x1 : Int32) (x2 : Int32) (x3 : Int32) : entryFrame m #[(.int x0), (.int x1), (.int x2), (.int x3)] maxLocals = mkF m 0 #[.val (.int x0), .val (.int x1), .val (.int x2), .val (.int x3), .unset, .unset, .unset, .unset, .unset, .unset] [] := by first | (simp [entryFrame, mkF, argsToLocals, Value.category, maxLocals]; done) | rfl
def Q0 (Z : State) (p1 : Int32) (p2 : Int32) (p3 : Int32) (p4 : Int32) (h0 : Heap) (n0 : Nat) (v : Option Value) (h : Heap) (L : List Loc) : Prop := v = some (.int 1) ∧ Fr n0 L
set_option maxRecDepth 65536 in
set_option maxHeartbeats 40000000 in
theorem rm0 (l : Launch) (Z : State) (a0 : Array Value) (hw : ∀ d ∈ tables_1, d.before a0 Z = true) (ws : List Jvm.Cond) (p1 : Int32) (p2 : Int32) (p3 : Int32) (p4 : Int32) (h0 : Heap) (n0 : Nat) (Z0 : n0 ≤ h0.size) :
    MetFree l x (head1 (Jvm.Cond.code x code maxLocals ret :: ws) room_1) (fun arr' U => arr' = #[(.int p1), (.int p2), (.int p3), (.int p4)] ∧ Z.Warmed39 U.vm ∧ U.heap = h0) (fun _ _ _ _ _ => True) (fun _ U o U' => ∃ v L, o = .returned v ∧ (Q0 Z p1 p2 p3 p4 h0 n0) v U'.heap L ∧ FrameEnd U o U' L room_1.cells room_1.slots) := by
  refine MetFree.of_bodySF pn_0 hisR ?_
  intro p e s m args below meth c s₁ Bd hml0 hP hK
  obtain ⟨rfl, hZ, hh⟩ := hP
  have hx := Bd.exec
  have hby := Bd.bytes
  have hlk : meth.locks = false := BodyLoose.notSynchronized Bd
  have hml : c.maxLocals = 10 := hml0
  have hown : s.vm.findClass "org/axiswarp/xml/XmlCharactersIsNcNameStartCharPinLaw" = some m.cls := findClass_of_methodNamed Bd.named
  have hnm := (name_of_methodNamed Bd.named Bd.method).1
  have X0 : Stand p l e room_1 s m #[(.int p1), (.int p2), (.int p3), (.int p4)] below meth c s₁ [] 0 0 := Stand.of_body Bd
  have e0 : s₁.heap = h0 := by rw [← hh, Bd.state]; rfl
  have N := Fr.nil n0
  have Zs := Z0
  change OwnGo p.tables e below (OwnEnd s (Q0 Z p1 p2 p3 p4 h0 n0) room_1.cells room_1.slots) _
  refine OwnGo.fwd (fun tq' kq' => castTop (ef_0 m p1 p2 p3 p4) kq') ?_
  show OwnGo _ _ _ _ (s₁.setTop (mkF m 0 #[.val (.int p1), .val (.int p2), .val (.int p3), .val (.int p4), .unset, .unset, .unset, .unset, .unset, .unset] []))
  refine OwnGo.fwd (fun tq' kq' => XS.bipush X0.here hx rfl (hb hby at_0) kq') ?_
  show OwnGo _ _ _ _ (s₁.setTop (mkF m 2 #[.val (.int p1), .val (.int p2), .val (.int p3), .val (.int p4), .unset, .unset, .unset, .unset, .unset, .unset] [(.int (34 : Int32))]))
  obtain ⟨T1, h1, b1, X1, e1, E1, g1, V1, st1⟩ := own_newI X0 hx hZ (hw _ (List.mem_of_getElem? (i := 0) rfl)) e0 (g := (mkF m 2 #[.val (.int p1), .val (.int p2), .val (.int p3), .val (.int p4), .unset, .unset, .unset, .unset, .unset, .unset] [(.int (34 : Int32))])) rfl (hb hby at_2) rfl (i := 34) (by decide) (cap := 34) (by decide) (by decide) (by decide) (by decide)
  have g_b1 : n0 ≤ b1 := Nat.le_trans Zs (Nat.le_of_eq g1.symm)
  have Zs := Nat.le_trans Zs E1.1
  have V_b1 := V1
  refine OwnGo.fwd st1 ?_
  show OwnGo _ _ _ _ (T1.setTop (mkF m 4 #[.val (.int p1), .val (.int p2), .val (.int p3), .val (.int p4), .unset, .unset, .unset, .unset, .unset, .unset] [(.ref b1)]))
  refine OwnGo.fwd (fun tq' kq' => XS.dup X1.here hx rfl (hb hby at_4) rfl rfl kq') ?_
  show OwnGo _ _ _ _ (T1.setTop (mkF m 5 #[.val (.int p1), .val (.int p2), .val (.int p3), .val (.int p4), .unset, .unset, .unset, .unset, .unset, .unset] [(.ref b1), (.ref b1)]))
  refine OwnGo.fwd (fun tq' kq' => XS.iconst X1.here hx rfl (hb hby at_5) kq') ?_
  show OwnGo _ _ _ _ (T1.setTop (mkF m 6 #[.val (.int p1), .val (.int p2), .val (.int p3), .val (.int p4), .unset, .unset, .unset, .unset, .unset, .unset] [(.int (0 : Int32)), (.ref b1), (.ref b1)]))
  refine OwnGo.fwd (fun tq' kq' => XS.iconst X1.here hx rfl (hb hby at_6) kq') ?_
  show OwnGo _ _ _ _ (T1.setTop (mkF m 7 #[.val (.int p1), .val (.int p2), .val (.int p3), .val (.int p4), .unset, .unset, .unset, .unset, .unset, .unset] [(.int (0 : Int32)), (.int (0 : Int32)), (.ref b1), (.ref b1)]))
  obtain ⟨T2, h2, X2, e2, W2, V2, st2⟩ := own_iastore X1 hx hZ e1 V_b1 (i := 0) (by decide) (by decide) (g := (mkF m 7 #[.val (.int p1), .val (.int p2), .val (.int p3), .val (.int p4), .unset, .unset, .unset, .unset, .unset, .unset] [(.int (0 : Int32)), (.int (0 : Int32)), (.ref b1), (.ref b1)])) rfl rfl (hb hby at_7)
  have Zs := Nat.le_trans Zs (Keep.of_wr W2).1
  have N := Fr.snoc X2 N g_b1
  have V_b1 := V2
  refine OwnGo.fwd st2 ?_
  show OwnGo _ _ _ _ (T2.setTop (mkF m 8 #[.val (.int p1), .val (.int p2), .val (.int p3), .val (.int p4), .unset, .unset, .unset, .unset, .unset, .unset] [(.ref b1)]))
  obtain ⟨f3, V_b1⟩ : ∃ f, OwnIA Z h2 b1 34 f := ⟨_, V_b1⟩
  obtain ⟨LL4, X4, N⟩ : ∃ L, Stand p l e room_1 s m #[(.int p1), (.int p2), (.int p3), (.int p4)] below meth c T2 L 1 34 ∧ Fr n0 L := ⟨_, X2, N⟩
  refine OwnGo.fwd (fun tq' kq' => XS.dup X4.here hx rfl (hb hby at_8) rfl rfl kq') ?_
  show OwnGo _ _ _ _ (T2.setTop (mkF m 9 #[.val (.int p1), .val (.int p2), .val (.int p3), .val (.int p4), .unset, .unset, .unset, .unset, .unset, .unset] [(.ref b1), (.ref b1)]))
  refine OwnGo.fwd (fun tq' kq' => XS.iconst X4.here hx rfl (hb hby at_9) kq') ?_
  show OwnGo _ _ _ _ (T2.setTop (mkF m 10 #[.val (.int p1), .val (.int p2), .val (.int p3), .val (.int p4), .unset, .unset, .unset, .unset, .unset, .unset] [(.int (1 : Int32)), (.ref b1), (.ref b1)]))
  refine OwnGo.fwd (fun tq' kq' => XS.bipush X4.here hx rfl (hb hby at_10) kq') ?_
  show OwnGo _ _ _ _ (T2.setTop (mkF m 12 #[.val (.int p1), .val (.int p2), .val (.int p3), .val (.int p4), .unset, .unset, .unset, .unset, .unset, .unset] [(.int (58 : Int32)), (.int (1 : Int32)), (.ref b1), (.ref b1)]))
  obtain ⟨T5, h5, X5, e5, W5, V5, st5⟩ := own_iastore X4 hx hZ e2 V_b1 (i := 1) (by decide) (by decide) (g := (mkF m 12 #[.val (.int p1), .val (.int p2), .val (.int p3), .val (.int p4), .unset, .unset, .unset, .unset, .unset, .unset] [(.int (58 : Int32)), (.int (1 : Int32)), (.ref b1), (.ref b1)])) rfl rfl (hb hby at_12)
  have Zs := Nat.le_trans Zs (Keep.of_wr W5).1
  have N := Fr.snoc X5 N g_b1
  have V_b1 := V5
  refine OwnGo.fwd st5 ?_
  show OwnGo _ _ _ _ (T5.setTop (mkF m 13 #[.val (.int p1), .val (.int p2), .val (.int p3), .val (.int p4), .unset, .unset, .unset, .unset, .unset, .unset] [(.ref b1)]))
  obtain ⟨f6, V_b1⟩ : ∃ f, OwnIA Z h5 b1 34 f := ⟨_, V_b1⟩
  obtain ⟨LL7, X7, N⟩ : ∃ L, Stand p l e room_1 s m #[(.int p1), (.int p2), (.int p3), (.int p4)] below meth c T5 L 1 34 ∧ Fr n0 L := ⟨_, X5, N⟩
  refine OwnGo.fwd (fun tq' kq' => XS.dup X7.here hx rfl (hb hby at_13) rfl rfl kq') ?_
  show OwnGo _ _ _ _ (T5.setTop (mkF m 14 #[.val (.int p1), .val (.int p2), .val (.int p3), .val (.int p4), .unset, .unset, .unset, .unset, .unset, .unset] [(.ref b1), (.ref b1)]))
  refine OwnGo.fwd (fun tq' kq' => XS.iconst X7.here hx rfl (hb hby at_14) kq') ?_
  show OwnGo _ _ _ _ (T5.setTop (mkF m 15 #[.val (.int p1), .val (.int p2), .val (.int p3), .val (.int p4), .unset, .unset, .unset, .unset, .unset, .unset] [(.int (2 : Int32)), (.ref b1), (.ref b1)]))
  refine OwnGo.fwd (fun tq' kq' => XS.bipush X7.here hx rfl (hb hby at_15) kq') ?_
  show OwnGo _ _ _ _ (T5.setTop (mkF m 17 #[.val (.int p1), .val (.int p2), .val (.int p3), .val (.int p4), .unset, .unset, .unset, .unset, .unset, .unset] [(.int (65 : Int32)), (.int (2 : Int32)), (.ref b1), (.ref b1)]))
  obtain ⟨T8, h8, X8, e8, W8, V8, st8⟩ := own_iastore X7 hx hZ e5 V_b1 (i := 2) (by decide) (by decide) (g := (mkF m 17 #[.val (.int p1), .val (.int p2), .val (.int p3), .val (.int p4), .unset, .unset, .unset, .unset, .unset, .unset] [(.int (65 : Int32)), (.int (2 : Int32)), (.ref b1), (.ref b1)])) rfl rfl (hb hby at_17)
  have Zs := Nat.le_trans Zs (Keep.of_wr W8).1
  have N := Fr.snoc X8 N g_b1
  have V_b1 := V8
  refine OwnGo.fwd st8 ?_
  show OwnGo _ _ _ _ (T8.setTop (mkF m 18 #[.val (.int p1), .val (.int p2), .val (.int p3), .val (.int p4), .unset, .unset, .unset, .unset, .unset, .unset] [(.ref b1)]))
  obtain ⟨f9, V_b1⟩ : ∃ f, OwnIA Z h8 b1 34 f := ⟨_, V_b1⟩
  obtain ⟨LL10, X10, N⟩ : ∃ L, Stand p l e room_1 s m #[(.int p1), (.int p2), (.int p3), (.int p4)] below meth c T8 L 1 34 ∧ Fr n0 L := ⟨_, X8, N⟩
  refine OwnGo.fwd (fun tq' kq' => XS.dup X10.here hx rfl (hb hby at_18) rfl rfl kq') ?_
  show OwnGo _ _ _ _ (T8.setTop (mkF m 19 #[.val (.int p1), .val (.int p2), .val (.int p3), .val (.int p4), .unset, .unset, .unset, .unset, .unset, .unset] [(.ref b1), (.ref b1)]))
  refine OwnGo.fwd (fun tq' kq' => XS.iconst X10.here hx rfl (hb hby at_19) kq') ?_
  show OwnGo _ _ _ _ (T8.setTop (mkF m 20 #[.val (.int p1), .val (.int p2), .val (.int p3), .val (.int p4), .unset, .unset, .unset, .unset, .unset, .unset] [(.int (3 : Int32)), (.ref b1), (.ref b1)]))
  refine OwnGo.fwd (fun tq' kq' => XS.bipush X10.here hx rfl (hb hby at_20) kq') ?_
  show OwnGo _ _ _ _ (T8.setTop (mkF m 22 #[.val (.int p1), .val (.int p2), .val (.int p3), .val (.int p4), .unset, .unset, .unset, .unset, .unset, .unset] [(.int (90 : Int32)), (.int (3 : Int32)), (.ref b1), (.ref b1)]))
  obtain ⟨T11, h11, X11, e11, W11, V11, st11⟩ := own_iastore X10 hx hZ e8 V_b1 (i := 3) (by decide) (by decide) (g := (mkF m 22 #[.val (.int p1), .val (.int p2), .val (.int p3), .val (.int p4), .unset, .unset, .unset, .unset, .unset, .unset] [(.int (90 : Int32)), (.int (3 : Int32)), (.ref b1), (.ref b1)])) rfl rfl (hb hby at_22)
  have Zs := Nat.le_trans Zs (Keep.of_wr W11).1
  have N := Fr.snoc X11 N g_b1
  have V_b1 := V11
  refine OwnGo.fwd st11 ?_
  show OwnGo _ _ _ _ (T11.setTop (mkF m 23 #[.val (.int p1), .val (.int p2), .val (.int p3), .val (.int p4), .unset, .unset, .unset, .unset, .unset, .unset] [(.ref b1)]))
  obtain ⟨f12, V_b1⟩ : ∃ f, OwnIA Z h11 b1 34 f := ⟨_, V_b1⟩
  obtain ⟨LL13, X13, N⟩ : ∃ L, Stand p l e room_1 s m #[(.int p1), (.int p2), (.int p3), (.int p4)] below meth c T11 L 1 34 ∧ Fr n0 L := ⟨_, X11, N⟩
  refine OwnGo.fwd (fun tq' kq' => XS.dup X13.here hx rfl (hb hby at_23) rfl rfl kq') ?_
  show OwnGo _ _ _ _ (T11.setTop (mkF m 24 #[.val (.int p1), .val (.int p2), .val (.int p3), .val (.int p4), .unset, .unset, .unset, .unset, .unset, .unset] [(.ref b1), (.ref b1)]))
  refine OwnGo.fwd (fun tq' kq' => XS.iconst X13.here hx rfl (hb hby at_24) kq') ?_
  show OwnGo _ _ _ _ (T11.setTop (mkF m 25 #[.val (.int p1), .val (.int p2), .val (.int p3), .val (.int p4), .unset, .unset, .unset, .unset, .unset, .unset] [(.int (4 : Int32)), (.ref b1), (.ref b1)]))
  refine OwnGo.fwd (fun tq' kq' => XS.bipush X13.here hx rfl (hb hby at_25) kq') ?_
  show OwnGo _ _ _ _ (T11.setTop (mkF m 27 #[.val (.int p1), .val (.int p2), .val (.int p3), .val (.int p4), .unset, .unset, .unset, .unset, .unset, .unset] [(.int (95 : Int32)), (.int (4 : Int32)), (.ref b1), (.ref b1)]))
  obtain ⟨T14, h14, X14, e14, W14, V14, st14⟩ := own_iastore X13 hx hZ e11 V_b1 (i := 4) (by decide) (by decide) (g := (mkF m 27 #[.val (.int p1), .val (.int p2), .val (.int p3), .val (.int p4), .unset, .unset, .unset, .unset, .unset, .unset] [(.int (95 : Int32)), (.int (4 : Int32)), (.ref b1), (.ref b1)])) rfl rfl (hb hby at_27)
  have Zs := Nat.le_trans Zs (Keep.of_wr W14).1
  have N := Fr.snoc X14 N g_b1
  have V_b1 := V14
  refine OwnGo.fwd st14 ?_
  show OwnGo _ _ _ _ (T14.setTop (mkF m 28 #[.val (.int p1), .val (.int p2), .val (.int p3), .val (.int p4), .unset, .unset, .unset, .unset, .unset, .unset] [(.ref b1)]))
  obtain ⟨f15, V_b1⟩ : ∃ f, OwnIA Z h14 b1 34 f := ⟨_, V_b1⟩
  obtain ⟨LL16, X16, N⟩ : ∃ L, Stand p l e room_1 s m #[(.int p1), (.int p2), (.int p3), (.int p4)] below meth c T14 L 1 34 ∧ Fr n0 L := ⟨_, X14, N⟩
  refine OwnGo.fwd (fun tq' kq' => XS.dup X16.here hx rfl (hb hby at_28) rfl rfl kq') ?_
  show OwnGo _ _ _ _ (T14.setTop (mkF m 29 #[.val (.int p1), .val (.int p2), .val (.int p3), .val (.int p4), .unset, .unset, .unset, .unset, .unset, .unset] [(.ref b1), (.ref b1)]))
  refine OwnGo.fwd (fun tq' kq' => XS.iconst X16.here hx rfl (hb hby at_29) kq') ?_
  show OwnGo _ _ _ _ (T14.setTop (mkF m 30 #[.val (.int p1), .val (.int p2), .val (.int p3), .val (.int p4), .unset, .unset, .unset, .unset, .unset, .unset] [(.int (5 : Int32)), (.ref b1), (.ref b1)]))
  refine OwnGo.fwd (fun tq' kq' => XS.bipush X16.here hx rfl (hb hby at_30) kq') ?_
  show OwnGo _ _ _ _ (T14.setTop (mkF m 32 #[.val (.int p1), .val (.int p2), .val (.int p3), .val (.int p4), .unset, .unset, .unset, .unset, .unset, .unset] [(.int (97 : Int32)), (.int (5 : Int32)), (.ref b1), (.ref b1)]))
  obtain ⟨T17, h17, X17, e17, W17, V17, st17⟩ := own_iastore X16 hx hZ e14 V_b1 (i := 5) (by decide) (by decide) (g := (mkF m 32 #[.val (.int p1), .val (.int p2), .val (.int p3), .val (.int p4), .unset, .unset, .unset, .unset, .unset, .unset] [(.int (97 : Int32)), (.int (5 : Int32)), (.ref b1), (.ref b1)])) rfl rfl (hb hby at_32)
  have Zs := Nat.le_trans Zs (Keep.of_wr W17).1
  have N := Fr.snoc X17 N g_b1
  have V_b1 := V17
  refine OwnGo.fwd st17 ?_
  show OwnGo _ _ _ _ (T17.setTop (mkF m 33 #[.val (.int p1), .val (.int p2), .val (.int p3), .val (.int p4), .unset, .unset, .unset, .unset, .unset, .unset] [(.ref b1)]))
  obtain ⟨f18, V_b1⟩ : ∃ f, OwnIA Z h17 b1 34 f := ⟨_, V_b1⟩
  obtain ⟨LL19, X19, N⟩ : ∃ L, Stand p l e room_1 s m #[(.int p1), (.int p2), (.int p3), (.int p4)] below meth c T17 L 1 34 ∧ Fr n0 L := ⟨_, X17, N⟩
  refine OwnGo.fwd (fun tq' kq' => XS.dup X19.here hx rfl (hb hby at_33) rfl rfl kq') ?_
  show OwnGo _ _ _ _ (T17.setTop (mkF m 34 #[.val (.int p1), .val (.int p2), .val (.int p3), .val (.int p4), .unset, .unset, .unset, .unset, .unset, .unset] [(.ref b1), (.ref b1)]))
  refine OwnGo.fwd (fun tq' kq' => XS.bipush X19.here hx rfl (hb hby at_34) kq') ?_
  show OwnGo _ _ _ _ (T17.setTop (mkF m 36 #[.val (.int p1), .val (.int p2), .val (.int p3), .val (.int p4), .unset, .unset, .unset, .unset, .unset, .unset] [(.int (6 : Int32)), (.ref b1), (.ref b1)]))
  refine OwnGo.fwd (fun tq' kq' => XS.bipush X19.here hx rfl (hb hby at_36) kq') ?_
  show OwnGo _ _ _ _ (T17.setTop (mkF m 38 #[.val (.int p1), .val (.int p2), .val (.int p3), .val (.int p4), .unset, .unset, .unset, .unset, .unset, .unset] [(.int (122 : Int32)), (.int (6 : Int32)), (.ref b1), (.ref b1)]))
  obtain ⟨T20, h20, X20, e20, W20, V20, st20⟩ := own_iastore X19 hx hZ e17 V_b1 (i := 6) (by decide) (by decide) (g := (mkF m 38 #[.val (.int p1), .val (.int p2), .val (.int p3), .val (.int p4), .unset, .unset, .unset, .unset, .unset, .unset] [(.int (122 : Int32)), (.int (6 : Int32)), (.ref b1), (.ref b1)])) rfl rfl (hb hby at_38)
  have Zs := Nat.le_trans Zs (Keep.of_wr W20).1
  have N := Fr.snoc X20 N g_b1
  have V_b1 := V20
  refine OwnGo.fwd st20 ?_
  show OwnGo _ _ _ _ (T20.setTop (mkF m 39 #[.val (.int p1), .val (.int p2), .val (.int p3), .val (.int p4), .unset, .unset, .unset, .unset, .unset, .unset] [(.ref b1)]))
  obtain ⟨f21, V_b1⟩ : ∃ f, OwnIA Z h20 b1 34 f := ⟨_, V_b1⟩
  obtain ⟨LL22, X22, N⟩ : ∃ L, Stand p l e room_1 s m #[(.int p1), (.int p2), (.int p3), (.int p4)] below meth c T20 L 1 34 ∧ Fr n0 L := ⟨_, X20, N⟩
  refine OwnGo.fwd (fun tq' kq' => XS.dup X22.here hx rfl (hb hby at_39) rfl rfl kq') ?_
  show OwnGo _ _ _ _ (T20.setTop (mkF m 40 #[.val (.int p1), .val (.int p2), .val (.int p3), .val (.int p4), .unset, .unset, .unset, .unset, .unset, .unset] [(.ref b1), (.ref b1)]))
  refine OwnGo.fwd (fun tq' kq' => XS.bipush X22.here hx rfl (hb hby at_40) kq') ?_
  show OwnGo _ _ _ _ (T20.setTop (mkF m 42 #[.val (.int p1), .val (.int p2), .val (.int p3), .val (.int p4), .unset, .unset, .unset, .unset, .unset, .unset] [(.int (7 : Int32)), (.ref b1), (.ref b1)]))
  refine OwnGo.fwd (fun tq' kq' => XS.sipush X22.here hx rfl (hb hby at_42) kq') ?_
  show OwnGo _ _ _ _ (T20.setTop (mkF m 45 #[.val (.int p1), .val (.int p2), .val (.int p3), .val (.int p4), .unset, .unset, .unset, .unset, .unset, .unset] [(.int (192 : Int32)), (.int (7 : Int32)), (.ref b1), (.ref b1)]))
  obtain ⟨T23, h23, X23, e23, W23, V23, st23⟩ := own_iastore X22 hx hZ e20 V_b1 (i := 7) (by decide) (by decide) (g := (mkF m 45 #[.val (.int p1), .val (.int p2), .val (.int p3), .val (.int p4), .unset, .unset, .unset, .unset, .unset, .unset] [(.int (192 : Int32)), (.int (7 : Int32)), (.ref b1), (.ref b1)])) rfl rfl (hb hby at_45)
  have Zs := Nat.le_trans Zs (Keep.of_wr W23).1
  have N := Fr.snoc X23 N g_b1
  have V_b1 := V23
  refine OwnGo.fwd st23 ?_
  show OwnGo _ _ _ _ (T23.setTop (mkF m 46 #[.val (.int p1), .val (.int p2), .val (.int p3), .val (.int p4), .unset, .unset, .unset, .unset, .unset, .unset] [(.ref b1)]))
  obtain ⟨f24, V_b1⟩ : ∃ f, OwnIA Z h23 b1 34 f := ⟨_, V_b1⟩
  obtain ⟨LL25, X25, N⟩ : ∃ L, Stand p l e room_1 s m #[(.int p1), (.int p2), (.int p3), (.int p4)] below meth c T23 L 1 34 ∧ Fr n0 L := ⟨_, X23, N⟩
  refine OwnGo.fwd (fun tq' kq' => XS.dup X25.here hx rfl (hb hby at_46) rfl rfl kq') ?_
  show OwnGo _ _ _ _ (T23.setTop (mkF m 47 #[.val (.int p1), .val (.int p2), .val (.int p3), .val (.int p4), .unset, .unset, .unset, .unset, .unset, .unset] [(.ref b1), (.ref b1)]))
  refine OwnGo.fwd (fun tq' kq' => XS.bipush X25.here hx rfl (hb hby at_47) kq') ?_
  show OwnGo _ _ _ _ (T23.setTop (mkF m 49 #[.val (.int p1), .val (.int p2), .val (.int p3), .val (.int p4), .unset, .unset, .unset, .unset, .unset, .unset] [(.int (8 : Int32)), (.ref b1), (.ref b1)]))
  refine OwnGo.fwd (fun tq' kq' => XS.sipush X25.here hx rfl (hb hby at_49) kq') ?_
  show OwnGo _ _ _ _ (T23.setTop (mkF m 52 #[.val (.int p1), .val (.int p2), .val (.int p3), .val (.int p4), .unset, .unset, .unset, .unset, .unset, .unset] [(.int (214 : Int32)), (.int (8 : Int32)), (.ref b1), (.ref b1)]))
  obtain ⟨T26, h26, X26, e26, W26, V26, st26⟩ := own_iastore X25 hx hZ e23 V_b1 (i := 8) (by decide) (by decide) (g := (mkF m 52 #[.val (.int p1), .val (.int p2), .val (.int p3), .val (.int p4), .unset, .unset, .unset, .unset, .unset, .unset] [(.int (214 : Int32)), (.int (8 : Int32)), (.ref b1), (.ref b1)])) rfl rfl (hb hby at_52)
  have Zs := Nat.le_trans Zs (Keep.of_wr W26).1
  have N := Fr.snoc X26 N g_b1
  have V_b1 := V26
  refine OwnGo.fwd st26 ?_
  show OwnGo _ _ _ _ (T26.setTop (mkF m 53 #[.val (.int p1), .val (.int p2), .val (.int p3), .val (.int p4), .unset, .unset, .unset, .unset, .unset, .unset] [(.ref b1)]))
  obtain ⟨f27, V_b1⟩ : ∃ f, OwnIA Z h26 b1 34 f := ⟨_, V_b1⟩
  obtain ⟨LL28, X28, N⟩ : ∃ L, Stand p l e room_1 s m #[(.int p1), (.int p2), (.int p3), (.int p4)] below meth c T26 L 1 34 ∧ Fr n0 L := ⟨_, X26, N⟩
  refine OwnGo.fwd (fun tq' kq' => XS.dup X28.here hx rfl (hb hby at_53) rfl rfl kq') ?_
  show OwnGo _ _ _ _ (T26.setTop (mkF m 54 #[.val (.int p1), .val (.int p2), .val (.int p3), .val (.int p4), .unset, .unset, .unset, .unset, .unset, .unset] [(.ref b1), (.ref b1)]))
  refine OwnGo.fwd (fun tq' kq' => XS.bipush X28.here hx rfl (hb hby at_54) kq') ?_
  show OwnGo _ _ _ _ (T26.setTop (mkF m 56 #[.val (.int p1), .val (.int p2), .val (.int p3), .val (.int p4), .unset, .unset, .unset, .unset, .unset, .unset] [(.int (9 : Int32)), (.ref b1), (.ref b1)]))
  refine OwnGo.fwd (fun tq' kq' => XS.sipush X28.here hx rfl (hb hby at_56) kq') ?_
  show OwnGo _ _ _ _ (T26.setTop (mkF m 59 #[.val (.int p1), .val (.int p2), .val (.int p3), .val (.int p4), .unset, .unset, .unset, .unset, .unset, .unset] [(.int (215 : Int32)), (.int (9 : Int32)), (.ref b1), (.ref b1)]))
  obtain ⟨T29, h29, X29, e29, W29, V29, st29⟩ := own_iastore X28 hx hZ e26 V_b1 (i := 9) (by decide) (by decide) (g := (mkF m 59 #[.val (.int p1), .val (.int p2), .val (.int p3), .val (.int p4), .unset, .unset, .unset, .unset, .unset, .unset] [(.int (215 : Int32)), (.int (9 : Int32)), (.ref b1), (.ref b1)])) rfl rfl (hb hby at_59)
  have Zs := Nat.le_trans Zs (Keep.of_wr W29).1
  have N := Fr.snoc X29 N g_b1
  have V_b1 := V29
  refine OwnGo.fwd st29 ?_
  show OwnGo _ _ _ _ (T29.setTop (mkF m 60 #[.val (.int p1), .val (.int p2), .val (.int p3), .val (.int p4), .unset, .unset, .unset, .unset, .unset, .unset] [(.ref b1)]))
  obtain ⟨f30, V_b1⟩ : ∃ f, OwnIA Z h29 b1 34 f := ⟨_, V_b1⟩
  obtain ⟨LL31, X31, N⟩ : ∃ L, Stand p l e room_1 s m #[(.int p1), (.int p2), (.int p3), (.int p4)] below meth c T29 L 1 34 ∧ Fr n0 L := ⟨_, X29, N⟩
  refine OwnGo.fwd (fun tq' kq' => XS.dup X31.here hx rfl (hb hby at_60) rfl rfl kq') ?_
  show OwnGo _ _ _ _ (T29.setTop (mkF m 61 #[.val (.int p1), .val (.int p2), .val (.int p3), .val (.int p4), .unset, .unset, .unset, .unset, .unset, .unset] [(.ref b1), (.ref b1)]))
  refine OwnGo.fwd (fun tq' kq' => XS.bipush X31.here hx rfl (hb hby at_61) kq') ?_
  show OwnGo _ _ _ _ (T29.setTop (mkF m 63 #[.val (.int p1), .val (.int p2), .val (.int p3), .val (.int p4), .unset, .unset, .unset, .unset, .unset, .unset] [(.int (10 : Int32)), (.ref b1), (.ref b1)]))
  refine OwnGo.fwd (fun tq' kq' => XS.sipush X31.here hx rfl (hb hby at_63) kq') ?_
  show OwnGo _ _ _ _ (T29.setTop (mkF m 66 #[.val (.int p1), .val (.int p2), .val (.int p3), .val (.int p4), .unset, .unset, .unset, .unset, .unset, .unset] [(.int (216 : Int32)), (.int (10 : Int32)), (.ref b1), (.ref b1)]))
  obtain ⟨T32, h32, X32, e32, W32, V32, st32⟩ := own_iastore X31 hx hZ e29 V_b1 (i := 10) (by decide) (by decide) (g := (mkF m 66 #[.val (.int p1), .val (.int p2), .val (.int p3), .val (.int p4), .unset, .unset, .unset, .unset, .unset, .unset] [(.int (216 : Int32)), (.int (10 : Int32)), (.ref b1), (.ref b1)])) rfl rfl (hb hby at_66)
  have Zs := Nat.le_trans Zs (Keep.of_wr W32).1
  have N := Fr.snoc X32 N g_b1
  have V_b1 := V32
  refine OwnGo.fwd st32 ?_
  show OwnGo _ _ _ _ (T32.setTop (mkF m 67 #[.val (.int p1), .val (.int p2), .val (.int p3), .val (.int p4), .unset, .unset, .unset, .unset, .unset, .unset] [(.ref b1)]))
  obtain ⟨f33, V_b1⟩ : ∃ f, OwnIA Z h32 b1 34 f := ⟨_, V_b1⟩
  obtain ⟨LL34, X34, N⟩ : ∃ L, Stand p l e room_1 s m #[(.int p1), (.int p2), (.int p3), (.int p4)] below meth c T32 L 1 34 ∧ Fr n0 L := ⟨_, X32, N⟩
  refine OwnGo.fwd (fun tq' kq' => XS.dup X34.here hx rfl (hb hby at_67) rfl rfl kq') ?_
  show OwnGo _ _ _ _ (T32.setTop (mkF m 68 #[.val (.int p1), .val (.int p2), .val (.int p3), .val (.int p4), .unset, .unset, .unset, .unset, .unset, .unset] [(.ref b1), (.ref b1)]))
  refine OwnGo.fwd (fun tq' kq' => XS.bipush X34.here hx rfl (hb hby at_68) kq') ?_
  show OwnGo _ _ _ _ (T32.setTop (mkF m 70 #[.val (.int p1), .val (.int p2), .val (.int p3), .val (.int p4), .unset, .unset, .unset, .unset, .unset, .unset] [(.int (11 : Int32)), (.ref b1), (.ref b1)]))
  refine OwnGo.fwd (fun tq' kq' => XS.sipush X34.here hx rfl (hb hby at_70) kq') ?_
  show OwnGo _ _ _ _ (T32.setTop (mkF m 73 #[.val (.int p1), .val (.int p2), .val (.int p3), .val (.int p4), .unset, .unset, .unset, .unset, .unset, .unset] [(.int (246 : Int32)), (.int (11 : Int32)), (.ref b1), (.ref b1)]))
  obtain ⟨T35, h35, X35, e35, W35, V35, st35⟩ := own_iastore X34 hx hZ e32 V_b1 (i := 11) (by decide) (by decide) (g := (mkF m 73 #[.val (.int p1), .val (.int p2), .val (.int p3), .val (.int p4), .unset, .unset, .unset, .unset, .unset, .unset] [(.int (246 : Int32)), (.int (11 : Int32)), (.ref b1), (.ref b1)])) rfl rfl (hb hby at_73)
  have Zs := Nat.le_trans Zs (Keep.of_wr W35).1
  have N := Fr.snoc X35 N g_b1
  have V_b1 := V35
  refine OwnGo.fwd st35 ?_
  show OwnGo _ _ _ _ (T35.setTop (mkF m 74 #[.val (.int p1), .val (.int p2), .val (.int p3), .val (.int p4), .unset, .unset, .unset, .unset, .unset, .unset] [(.ref b1)]))
  obtain ⟨f36, V_b1⟩ : ∃ f, OwnIA Z h35 b1 34 f := ⟨_, V_b1⟩
  obtain ⟨LL37, X37, N⟩ : ∃ L, Stand p l e room_1 s m #[(.int p1), (.int p2), (.int p3), (.int p4)] below meth c T35 L 1 34 ∧ Fr n0 L := ⟨_, X35, N⟩
  refine OwnGo.fwd (fun tq' kq' => XS.dup X37.here hx rfl (hb hby at_74) rfl rfl kq') ?_
  show OwnGo _ _ _ _ (T35.setTop (mkF m 75 #[.val (.int p1), .val (.int p2), .val (.int p3), .val (.int p4), .unset, .unset, .unset, .unset, .unset, .unset] [(.ref b1), (.ref b1)]))
  refine OwnGo.fwd (fun tq' kq' => XS.bipush X37.here hx rfl (hb hby at_75) kq') ?_
  show OwnGo _ _ _ _ (T35.setTop (mkF m 77 #[.val (.int p1), .val (.int p2), .val (.int p3), .val (.int p4), .unset, .unset, .unset, .unset, .unset, .unset] [(.int (12 : Int32)), (.ref b1), (.ref b1)]))
  refine OwnGo.fwd (fun tq' kq' => XS.sipush X37.here hx rfl (hb hby at_77) kq') ?_
  show OwnGo _ _ _ _ (T35.setTop (mkF m 80 #[.val (.int p1), .val (.int p2), .val (.int p3), .val (.int p4), .unset, .unset, .unset, .unset, .unset, .unset] [(.int (247 : Int32)), (.int (12 : Int32)), (.ref b1), (.ref b1)]))
  obtain ⟨T38, h38, X38, e38, W38, V38, st38⟩ := own_iastore X37 hx hZ e35 V_b1 (i := 12) (by decide) (by decide) (g := (mkF m 80 #[.val (.int p1), .val (.int p2), .val (.int p3), .val (.int p4), .unset, .unset, .unset, .unset, .unset, .unset] [(.int (247 : Int32)), (.int (12 : Int32)), (.ref b1), (.ref b1)])) rfl rfl (hb hby at_80)
  have Zs := Nat.le_trans Zs (Keep.of_wr W38).1
  have N := Fr.snoc X38 N g_b1
  have V_b1 := V38
  refine OwnGo.fwd st38 ?_
  show OwnGo _ _ _ _ (T38.setTop (mkF m 81 #[.val (.int p1), .val (.int p2), .val (.int p3), .val (.int p4), .unset, .unset, .unset, .unset, .unset, .unset] [(.ref b1)]))
  obtain ⟨f39, V_b1⟩ : ∃ f, OwnIA Z h38 b1 34 f := ⟨_, V_b1⟩
  obtain ⟨LL40, X40, N⟩ : ∃ L, Stand p l e room_1 s m #[(.int p1), (.int p2), (.int p3), (.int p4)] below meth c T38 L 1 34 ∧ Fr n0 L := ⟨_, X38, N⟩
  refine OwnGo.fwd (fun tq' kq' => XS.dup X40.here hx rfl (hb hby at_81) rfl rfl kq') ?_
  show OwnGo _ _ _ _ (T38.setTop (mkF m 82 #[.val (.int p1), .val (.int p2), .val (.int p3), .val (.int p4), .unset, .unset, .unset, .unset, .unset, .unset] [(.ref b1), (.ref b1)]))
  refine OwnGo.fwd (fun tq' kq' => XS.bipush X40.here hx rfl (hb hby at_82) kq') ?_
  show OwnGo _ _ _ _ (T38.setTop (mkF m 84 #[.val (.int p1), .val (.int p2), .val (.int p3), .val (.int p4), .unset, .unset, .unset, .unset, .unset, .unset] [(.int (13 : Int32)), (.ref b1), (.ref b1)]))
  refine OwnGo.fwd (fun tq' kq' => XS.sipush X40.here hx rfl (hb hby at_84) kq') ?_
  show OwnGo _ _ _ _ (T38.setTop (mkF m 87 #[.val (.int p1), .val (.int p2), .val (.int p3), .val (.int p4), .unset, .unset, .unset, .unset, .unset, .unset] [(.int (248 : Int32)), (.int (13 : Int32)), (.ref b1), (.ref b1)]))
  obtain ⟨T41, h41, X41, e41, W41, V41, st41⟩ := own_iastore X40 hx hZ e38 V_b1 (i := 13) (by decide) (by decide) (g := (mkF m 87 #[.val (.int p1), .val (.int p2), .val (.int p3), .val (.int p4), .unset, .unset, .unset, .unset, .unset, .unset] [(.int (248 : Int32)), (.int (13 : Int32)), (.ref b1), (.ref b1)])) rfl rfl (hb hby at_87)
  have Zs := Nat.le_trans Zs (Keep.of_wr W41).1
  have N := Fr.snoc X41 N g_b1
  have V_b1 := V41
  refine OwnGo.fwd st41 ?_
  show OwnGo _ _ _ _ (T41.setTop (mkF m 88 #[.val (.int p1), .val (.int p2), .val (.int p3), .val (.int p4), .unset, .unset, .unset, .unset, .unset, .unset] [(.ref b1)]))
  obtain ⟨f42, V_b1⟩ : ∃ f, OwnIA Z h41 b1 34 f := ⟨_, V_b1⟩
  obtain ⟨LL43, X43, N⟩ : ∃ L, Stand p l e room_1 s m #[(.int p1), (.int p2), (.int p3), (.int p4)] below meth c T41 L 1 34 ∧ Fr n0 L := ⟨_, X41, N⟩
  refine OwnGo.fwd (fun tq' kq' => XS.dup X43.here hx rfl (hb hby at_88) rfl rfl kq') ?_
  show OwnGo _ _ _ _ (T41.setTop (mkF m 89 #[.val (.int p1), .val (.int p2), .val (.int p3), .val (.int p4), .unset, .unset, .unset, .unset, .unset, .unset] [(.ref b1), (.ref b1)]))
  refine OwnGo.fwd (fun tq' kq' => XS.bipush X43.here hx rfl (hb hby at_89) kq') ?_
  show OwnGo _ _ _ _ (T41.setTop (mkF m 91 #[.val (.int p1), .val (.int p2), .val (.int p3), .val (.int p4), .unset, .unset, .unset, .unset, .unset, .unset] [(.int (14 : Int32)), (.ref b1), (.ref b1)]))
  refine OwnGo.fwd (fun tq' kq' => XS.sipush X43.here hx rfl (hb hby at_91) kq') ?_
  show OwnGo _ _ _ _ (T41.setTop (mkF m 94 #[.val (.int p1), .val (.int p2), .val (.int p3), .val (.int p4), .unset, .unset, .unset, .unset, .unset, .unset] [(.int (767 : Int32)), (.int (14 : Int32)), (.ref b1), (.ref b1)]))
  obtain ⟨T44, h44, X44, e44, W44, V44, st44⟩ := own_iastore X43 hx hZ e41 V_b1 (i := 14) (by decide) (by decide) (g := (mkF m 94 #[.val (.int p1), .val (.int p2), .val (.int p3), .val (.int p4), .unset, .unset, .unset, .unset, .unset, .unset] [(.int (767 : Int32)), (.int (14 : Int32)), (.ref b1), (.ref b1)])) rfl rfl (hb hby at_94)
  have Zs := Nat.le_trans Zs (Keep.of_wr W44).1
  have N := Fr.snoc X44 N g_b1
  have V_b1 := V44
  refine OwnGo.fwd st44 ?_
  show OwnGo _ _ _ _ (T44.setTop (mkF m 95 #[.val (.int p1), .val (.int p2), .val (.int p3), .val (.int p4), .unset, .unset, .unset, .unset, .unset, .unset] [(.ref b1)]))
  obtain ⟨f45, V_b1⟩ : ∃ f, OwnIA Z h44 b1 34 f := ⟨_, V_b1⟩
  obtain ⟨LL46, X46, N⟩ : ∃ L, Stand p l e room_1 s m #[(.int p1), (.int p2), (.int p3), (.int p4)] below meth c T44 L 1 34 ∧ Fr n0 L := ⟨_, X44, N⟩
  refine OwnGo.fwd (fun tq' kq' => XS.dup X46.here hx rfl (hb hby at_95) rfl rfl kq') ?_
  show OwnGo _ _ _ _ (T44.setTop (mkF m 96 #[.val (.int p1), .val (.int p2), .val (.int p3), .val (.int p4), .unset, .unset, .unset, .unset, .unset, .unset] [(.ref b1), (.ref b1)]))
  refine OwnGo.fwd (fun tq' kq' => XS.bipush X46.here hx rfl (hb hby at_96) kq') ?_
  show OwnGo _ _ _ _ (T44.setTop (mkF m 98 #[.val (.int p1), .val (.int p2), .val (.int p3), .val (.int p4), .unset, .unset, .unset, .unset, .unset, .unset] [(.int (15 : Int32)), (.ref b1), (.ref b1)]))
  refine OwnGo.fwd (fun tq' kq' => XS.sipush X46.here hx rfl (hb hby at_98) kq') ?_
  show OwnGo _ _ _ _ (T44.setTop (mkF m 101 #[.val (.int p1), .val (.int p2), .val (.int p3), .val (.int p4), .unset, .unset, .unset, .unset, .unset, .unset] [(.int (880 : Int32)), (.int (15 : Int32)), (.ref b1), (.ref b1)]))
  obtain ⟨T47, h47, X47, e47, W47, V47, st47⟩ := own_iastore X46 hx hZ e44 V_b1 (i := 15) (by decide) (by decide) (g := (mkF m 101 #[.val (.int p1), .val (.int p2), .val (.int p3), .val (.int p4), .unset, .unset, .unset, .unset, .unset, .unset] [(.int (880 : Int32)), (.int (15 : Int32)), (.ref b1), (.ref b1)])) rfl rfl (hb hby at_101)
  have Zs := Nat.le_trans Zs (Keep.of_wr W47).1
  have N := Fr.snoc X47 N g_b1
  have V_b1 := V47
  refine OwnGo.fwd st47 ?_
  show OwnGo _ _ _ _ (T47.setTop (mkF m 102 #[.val (.int p1), .val (.int p2), .val (.int p3), .val (.int p4), .unset, .unset, .unset, .unset, .unset, .unset] [(.ref b1)]))
  obtain ⟨f48, V_b1⟩ : ∃ f, OwnIA Z h47 b1 34 f := ⟨_, V_b1⟩
  obtain ⟨LL49, X49, N⟩ : ∃ L, Stand p l e room_1 s m #[(.int p1), (.int p2), (.int p3), (.int p4)] below meth c T47 L 1 34 ∧ Fr n0 L := ⟨_, X47, N⟩
  refine OwnGo.fwd (fun tq' kq' => XS.dup X49.here hx rfl (hb hby at_102) rfl rfl kq') ?_
  show OwnGo _ _ _ _ (T47.setTop (mkF m 103 #[.val (.int p1), .val (.int p2), .val (.int p3), .val (.int p4), .unset, .unset, .unset, .unset, .unset, .unset] [(.ref b1), (.ref b1)]))
  refine OwnGo.fwd (fun tq' kq' => XS.bipush X49.here hx rfl (hb hby at_103) kq') ?_
  show OwnGo _ _ _ _ (T47.setTop (mkF m 105 #[.val (.int p1), .val (.int p2), .val (.int p3), .val (.int p4), .unset, .unset, .unset, .unset, .unset, .unset] [(.int (16 : Int32)), (.ref b1), (.ref b1)]))
  refine OwnGo.fwd (fun tq' kq' => XS.sipush X49.here hx rfl (hb hby at_105) kq') ?_
  show OwnGo _ _ _ _ (T47.setTop (mkF m 108 #[.val (.int p1), .val (.int p2), .val (.int p3), .val (.int p4), .unset, .unset, .unset, .unset, .unset, .unset] [(.int (893 : Int32)), (.int (16 : Int32)), (.ref b1), (.ref b1)]))
  obtain ⟨T50, h50, X50, e50, W50, V50, st50⟩ := own_iastore X49 hx hZ e47 V_b1 (i := 16) (by decide) (by decide) (g := (mkF m 108 #[.val (.int p1), .val (.int p2), .val (.int p3), .val (.int p4), .unset, .unset, .unset, .unset, .unset, .unset] [(.int (893 : Int32)), (.int (16 : Int32)), (.ref b1), (.ref b1)])) rfl rfl (hb hby at_108)
  have Zs := Nat.le_trans Zs (Keep.of_wr W50).1
  have N := Fr.snoc X50 N g_b1
  have V_b1 := V50
  refine OwnGo.fwd st50 ?_
  show OwnGo _ _ _ _ (T50.setTop (mkF m 109 #[.val (.int p1), .val (.int p2), .val (.int p3), .val (.int p4), .unset, .unset, .unset, .unset, .unset, .unset] [(.ref b1)]))
  obtain ⟨f51, V_b1⟩ : ∃ f, OwnIA Z h50 b1 34 f := ⟨_, V_b1⟩
  obtain ⟨LL52, X52, N⟩ : ∃ L, Stand p l e room_1 s m #[(.int p1), (.int p2), (.int p3), (.int p4)] below meth c T50 L 1 34 ∧ Fr n0 L := ⟨_, X50, N⟩
  refine OwnGo.fwd (fun tq' kq' => XS.dup X52.here hx rfl (hb hby at_109) rfl rfl kq') ?_
  show OwnGo _ _ _ _ (T50.setTop (mkF m 110 #[.val (.int p1), .val (.int p2), .val (.int p3), .val (.int p4), .unset, .unset, .unset, .unset, .unset, .unset] [(.ref b1), (.ref b1)]))
  refine OwnGo.fwd (fun tq' kq' => XS.bipush X52.here hx rfl (hb hby at_110) kq') ?_
  show OwnGo _ _ _ _ (T50.setTop (mkF m 112 #[.val (.int p1), .val (.int p2), .val (.int p3), .val (.int p4), .unset, .unset, .unset, .unset, .unset, .unset] [(.int (17 : Int32)), (.ref b1), (.ref b1)]))
  refine OwnGo.fwd (fun tq' kq' => XS.sipush X52.here hx rfl (hb hby at_112) kq') ?_
  show OwnGo _ _ _ _ (T50.setTop (mkF m 115 #[.val (.int p1), .val (.int p2), .val (.int p3), .val (.int p4), .unset, .unset, .unset, .unset, .unset, .unset] [(.int (894 : Int32)), (.int (17 : Int32)), (.ref b1), (.ref b1)]))
  obtain ⟨T53, h53, X53, e53, W53, V53, st53⟩ := own_iastore X52 hx hZ e50 V_b1 (i := 17) (by decide) (by decide) (g := (mkF m 115 #[.val (.int p1), .val (.int p2), .val (.int p3), .val (.int p4), .unset, .unset, .unset, .unset, .unset, .unset] [(.int (894 : Int32)), (.int (17 : Int32)), (.ref b1), (.ref b1)])) rfl rfl (hb hby at_115)
  have Zs := Nat.le_trans Zs (Keep.of_wr W53).1
  have N := Fr.snoc X53 N g_b1
  have V_b1 := V53
  refine OwnGo.fwd st53 ?_
  show OwnGo _ _ _ _ (T53.setTop (mkF m 116 #[.val (.int p1), .val (.int p2), .val (.int p3), .val (.int p4), .unset, .unset, .unset, .unset, .unset, .unset] [(.ref b1)]))
  obtain ⟨f54, V_b1⟩ : ∃ f, OwnIA Z h53 b1 34 f := ⟨_, V_b1⟩
  obtain ⟨LL55, X55, N⟩ : ∃ L, Stand p l e room_1 s m #[(.int p1), (.int p2), (.int p3), (.int p4)] below meth c T53 L 1 34 ∧ Fr n0 L := ⟨_, X53, N⟩
  refine OwnGo.fwd (fun tq' kq' => XS.dup X55.here hx rfl (hb hby at_116) rfl rfl kq') ?_
  show OwnGo _ _ _ _ (T53.setTop (mkF m 117 #[.val (.int p1), .val (.int p2), .val (.int p3), .val (.int p4), .unset, .unset, .unset, .unset, .unset, .unset] [(.ref b1), (.ref b1)]))
  refine OwnGo.fwd (fun tq' kq' => XS.bipush X55.here hx rfl (hb hby at_117) kq') ?_
  show OwnGo _ _ _ _ (T53.setTop (mkF m 119 #[.val (.int p1), .val (.int p2), .val (.int p3), .val (.int p4), .unset, .unset, .unset, .unset, .unset, .unset] [(.int (18 : Int32)), (.ref b1), (.ref b1)]))
  refine OwnGo.fwd (fun tq' kq' => XS.sipush X55.here hx rfl (hb hby at_119) kq') ?_
  show OwnGo _ _ _ _ (T53.setTop (mkF m 122 #[.val (.int p1), .val (.int p2), .val (.int p3), .val (.int p4), .unset, .unset, .unset, .unset, .unset, .unset] [(.int (895 : Int32)), (.int (18 : Int32)), (.ref b1), (.ref b1)]))
  obtain ⟨T56, h56, X56, e56, W56, V56, st56⟩ := own_iastore X55 hx hZ e53 V_b1 (i := 18) (by decide) (by decide) (g := (mkF m 122 #[.val (.int p1), .val (.int p2), .val (.int p3), .val (.int p4), .unset, .unset, .unset, .unset, .unset, .unset] [(.int (895 : Int32)), (.int (18 : Int32)), (.ref b1), (.ref b1)])) rfl rfl (hb hby at_122)
  have Zs := Nat.le_trans Zs (Keep.of_wr W56).1
  have N := Fr.snoc X56 N g_b1
  have V_b1 := V56
  refine OwnGo.fwd st56 ?_
  show OwnGo _ _ _ _ (T56.setTop (mkF m 123 #[.val (.int p1), .val (.int p2), .val (.int p3), .val (.int p4), .unset, .unset, .unset, .unset, .unset, .unset] [(.ref b1)]))
  obtain ⟨f57, V_b1⟩ : ∃ f, OwnIA Z h56 b1 34 f := ⟨_, V_b1⟩
  obtain ⟨LL58, X58, N⟩ : ∃ L, Stand p l e room_1 s m #[(.int p1), (.int p2), (.int p3), (.int p4)] below meth c T56 L 1 34 ∧ Fr n0 L := ⟨_, X56, N⟩
  refine OwnGo.fwd (fun tq' kq' => XS.dup X58.here hx rfl (hb hby at_123) rfl rfl kq') ?_
  show OwnGo _ _ _ _ (T56.setTop (mkF m 124 #[.val (.int p1), .val (.int p2), .val (.int p3), .val (.int p4), .unset, .unset, .unset, .unset, .unset, .unset] [(.ref b1), (.ref b1)]))
  refine OwnGo.fwd (fun tq' kq' => XS.bipush X58.here hx rfl (hb hby at_124) kq') ?_
  show OwnGo _ _ _ _ (T56.setTop (mkF m 126 #[.val (.int p1), .val (.int p2), .val (.int p3), .val (.int p4), .unset, .unset, .unset, .unset, .unset, .unset] [(.int (19 : Int32)), (.ref b1), (.ref b1)]))
  refine OwnGo.fwd (fun tq' kq' => XS.sipush X58.here hx rfl (hb hby at_126) kq') ?_
  show OwnGo _ _ _ _ (T56.setTop (mkF m 129 #[.val (.int p1), .val (.int p2), .val (.int p3), .val (.int p4), .unset, .unset, .unset, .unset, .unset, .unset] [(.int (8191 : Int32)), (.int (19 : Int32)), (.ref b1), (.ref b1)]))
  obtain ⟨T59, h59, X59, e59, W59, V59, st59⟩ := own_iastore X58 hx hZ e56 V_b1 (i := 19) (by decide) (by decide) (g := (mkF m 129 #[.val (.int p1), .val (.int p2), .val (.int p3), .val (.int p4), .unset, .unset, .unset, .unset, .unset, .unset] [(.int (8191 : Int32)), (.int (19 : Int32)), (.ref b1), (.ref b1)])) rfl rfl (hb hby at_129)
  have Zs := Nat.le_trans Zs (Keep.of_wr W59).1
  have N := Fr.snoc X59 N g_b1
  have V_b1 := V59
  refine OwnGo.fwd st59 ?_
  show OwnGo _ _ _ _ (T59.setTop (mkF m 130 #[.val (.int p1), .val (.int p2), .val (.int p3), .val (.int p4), .unset, .unset, .unset, .unset, .unset, .unset] [(.ref b1)]))
  obtain ⟨f60, V_b1⟩ : ∃ f, OwnIA Z h59 b1 34 f := ⟨_, V_b1⟩
  obtain ⟨LL61, X61, N⟩ : ∃ L, Stand p l e room_1 s m #[(.int p1), (.int p2), (.int p3), (.int p4)] below meth c T59 L 1 34 ∧ Fr n0 L := ⟨_, X59, N⟩
  refine OwnGo.fwd (fun tq' kq' => XS.dup X61.here hx rfl (hb hby at_130) rfl rfl kq') ?_
  show OwnGo _ _ _ _ (T59.setTop (mkF m 131 #[.val (.int p1), .val (.int p2), .val (.int p3), .val (.int p4), .unset, .unset, .unset, .unset, .unset, .unset] [(.ref b1), (.ref b1)]))
  refine OwnGo.fwd (fun tq' kq' => XS.bipush X61.here hx rfl (hb hby at_131) kq') ?_
  show OwnGo _ _ _ _ (T59.setTop (mkF m 133 #[.val (.int p1), .val (.int p2), .val (.int p3), .val (.int p4), .unset, .unset, .unset, .unset, .unset, .unset] [(.int (20 : Int32)), (.ref b1), (.ref b1)]))
  refine OwnGo.fwd (fun tq' kq' => XS.sipush X61.here hx rfl (hb hby at_133) kq') ?_
  show OwnGo _ _ _ _ (T59.setTop (mkF m 136 #[.val (.int p1), .val (.int p2), .val (.int p3), .val (.int p4), .unset, .unset, .unset, .unset, .unset, .unset] [(.int (8204 : Int32)), (.int (20 : Int32)), (.ref b1), (.ref b1)]))
  obtain ⟨T62, h62, X62, e62, W62, V62, st62⟩ := own_iastore X61 hx hZ e59 V_b1 (i := 20) (by decide) (by decide) (g := (mkF m 136 #[.val (.int p1), .val (.int p2), .val (.int p3), .val (.int p4), .unset, .unset, .unset, .unset, .unset, .unset] [(.int (8204 : Int32)), (.int (20 : Int32)), (.ref b1), (.ref b1)])) rfl rfl (hb hby at_136)
  have Zs := Nat.le_trans Zs (Keep.of_wr W62).1
  have N := Fr.snoc X62 N g_b1
  have V_b1 := V62
  refine OwnGo.fwd st62 ?_
  show OwnGo _ _ _ _ (T62.setTop (mkF m 137 #[.val (.int p1), .val (.int p2), .val (.int p3), .val (.int p4), .unset, .unset, .unset, .unset, .unset, .unset] [(.ref b1)]))
  obtain ⟨f63, V_b1⟩ : ∃ f, OwnIA Z h62 b1 34 f := ⟨_, V_b1⟩
  obtain ⟨LL64, X64, N⟩ : ∃ L, Stand p l e room_1 s m #[(.int p1), (.int p2), (.int p3), (.int p4)] below meth c T62 L 1 34 ∧ Fr n0 L := ⟨_, X62, N⟩
  refine OwnGo.fwd (fun tq' kq' => XS.dup X64.here hx rfl (hb hby at_137) rfl rfl kq') ?_
  show OwnGo _ _ _ _ (T62.setTop (mkF m 138 #[.val (.int p1), .val (.int p2), .val (.int p3), .val (.int p4), .unset, .unset, .unset, .unset, .unset, .unset] [(.ref b1), (.ref b1)]))
  refine OwnGo.fwd (fun tq' kq' => XS.bipush X64.here hx rfl (hb hby at_138) kq') ?_
  show OwnGo _ _ _ _ (T62.setTop (mkF m 140 #[.val (.int p1), .val (.int p2), .val (.int p3), .val (.int p4), .unset, .unset, .unset, .unset, .unset, .unset] [(.int (21 : Int32)), (.ref b1), (.ref b1)]))
  refine OwnGo.fwd (fun tq' kq' => XS.sipush X64.here hx rfl (hb hby at_140) kq') ?_
  show OwnGo _ _ _ _ (T62.setTop (mkF m 143 #[.val (.int p1), .val (.int p2), .val (.int p3), .val (.int p4), .unset, .unset, .unset, .unset, .unset, .unset] [(.int (8205 : Int32)), (.int (21 : Int32)), (.ref b1), (.ref b1)]))
  obtain ⟨T65, h65, X65, e65, W65, V65, st65⟩ := own_iastore X64 hx hZ e62 V_b1 (i := 21) (by decide) (by decide) (g := (mkF m 143 #[.val (.int p1), .val (.int p2), .val (.int p3), .val (.int p4), .unset, .unset, .unset, .unset, .unset, .unset] [(.int (8205 : Int32)), (.int (21 : Int32)), (.ref b1), (.ref b1)])) rfl rfl (hb hby at_143)
  have Zs := Nat.le_trans Zs (Keep.of_wr W65).1
  have N := Fr.snoc X65 N g_b1
  have V_b1 := V65
  refine OwnGo.fwd st65 ?_
  show OwnGo _ _ _ _ (T65.setTop (mkF m 144 #[.val (.int p1), .val (.int p2), .val (.int p3), .val (.int p4), .unset, .unset, .unset, .unset, .unset, .unset] [(.ref b1)]))
  obtain ⟨f66, V_b1⟩ : ∃ f, OwnIA Z h65 b1 34 f := ⟨_, V_b1⟩
  obtain ⟨LL67, X67, N⟩ : ∃ L, Stand p l e room_1 s m #[(.int p1), (.int p2), (.int p3), (.int p4)] below meth c T65 L 1 34 ∧ Fr n0 L := ⟨_, X65, N⟩
  refine OwnGo.fwd (fun tq' kq' => XS.dup X67.here hx rfl (hb hby at_144) rfl rfl kq') ?_
  show OwnGo _ _ _ _ (T65.setTop (mkF m 145 #[.val (.int p1), .val (.int p2), .val (.int p3), .val (.int p4), .unset, .unset, .unset, .unset, .unset, .unset] [(.ref b1), (.ref b1)]))
  refine OwnGo.fwd (fun tq' kq' => XS.bipush X67.here hx rfl (hb hby at_145) kq') ?_
  show OwnGo _ _ _ _ (T65.setTop (mkF m 147 #[.val (.int p1), .val (.int p2), .val (.int p3), .val (.int p4), .unset, .unset, .unset, .unset, .unset, .unset] [(.int (22 : Int32)), (.ref b1), (.ref b1)]))
  refine OwnGo.fwd (fun tq' kq' => XS.sipush X67.here hx rfl (hb hby at_147) kq') ?_
  show OwnGo _ _ _ _ (T65.setTop (mkF m 150 #[.val (.int p1), .val (.int p2), .val (.int p3), .val (.int p4), .unset, .unset, .unset, .unset, .unset, .unset] [(.int (8304 : Int32)), (.int (22 : Int32)), (.ref b1), (.ref b1)]))
  obtain ⟨T68, h68, X68, e68, W68, V68, st68⟩ := own_iastore X67 hx hZ e65 V_b1 (i := 22) (by decide) (by decide) (g := (mkF m 150 #[.val (.int p1), .val (.int p2), .val (.int p3), .val (.int p4), .unset, .unset, .unset, .unset, .unset, .unset] [(.int (8304 : Int32)), (.int (22 : Int32)), (.ref b1), (.ref b1)])) rfl rfl (hb hby at_150)
  have Zs := Nat.le_trans Zs (Keep.of_wr W68).1
  have N := Fr.snoc X68 N g_b1
  have V_b1 := V68
  refine OwnGo.fwd st68 ?_
  show OwnGo _ _ _ _ (T68.setTop (mkF m 151 #[.val (.int p1), .val (.int p2), .val (.int p3), .val (.int p4), .unset, .unset, .unset, .unset, .unset, .unset] [(.ref b1)]))
  obtain ⟨f69, V_b1⟩ : ∃ f, OwnIA Z h68 b1 34 f := ⟨_, V_b1⟩
  obtain ⟨LL70, X70, N⟩ : ∃ L, Stand p l e room_1 s m #[(.int p1), (.int p2), (.int p3), (.int p4)] below meth c T68 L 1 34 ∧ Fr n0 L := ⟨_, X68, N⟩
  refine OwnGo.fwd (fun tq' kq' => XS.dup X70.here hx rfl (hb hby at_151) rfl rfl kq') ?_
  show OwnGo _ _ _ _ (T68.setTop (mkF m 152 #[.val (.int p1), .val (.int p2), .val (.int p3), .val (.int p4), .unset, .unset, .unset, .unset, .unset, .unset] [(.ref b1), (.ref b1)]))
  refine OwnGo.fwd (fun tq' kq' => XS.bipush X70.here hx rfl (hb hby at_152) kq') ?_
  show OwnGo _ _ _ _ (T68.setTop (mkF m 154 #[.val (.int p1), .val (.int p2), .val (.int p3), .val (.int p4), .unset, .unset, .unset, .unset, .unset, .unset] [(.int (23 : Int32)), (.ref b1), (.ref b1)]))
  refine OwnGo.fwd (fun tq' kq' => XS.sipush X70.here hx rfl (hb hby at_154) kq') ?_
  show OwnGo _ _ _ _ (T68.setTop (mkF m 157 #[.val (.int p1), .val (.int p2), .val (.int p3), .val (.int p4), .unset, .unset, .unset, .unset, .unset, .unset] [(.int (8591 : Int32)), (.int (23 : Int32)), (.ref b1), (.ref b1)]))
  obtain ⟨T71, h71, X71, e71, W71, V71, st71⟩ := own_iastore X70 hx hZ e68 V_b1 (i := 23) (by decide) (by decide) (g := (mkF m 157 #[.val (.int p1), .val (.int p2), .val (.int p3), .val (.int p4), .unset, .unset, .unset, .unset, .unset, .unset] [(.int (8591 : Int32)), (.int (23 : Int32)), (.ref b1), (.ref b1)])) rfl rfl (hb hby at_157)
  have Zs := Nat.le_trans Zs (Keep.of_wr W71).1
  have N := Fr.snoc X71 N g_b1
  have V_b1 := V71
  refine OwnGo.fwd st71 ?_
  show OwnGo _ _ _ _ (T71.setTop (mkF m 158 #[.val (.int p1), .val (.int p2), .val (.int p3), .val (.int p4), .unset, .unset, .unset, .unset, .unset, .unset] [(.ref b1)]))
  obtain ⟨f72, V_b1⟩ : ∃ f, OwnIA Z h71 b1 34 f := ⟨_, V_b1⟩
  obtain ⟨LL73, X73, N⟩ : ∃ L, Stand p l e room_1 s m #[(.int p1), (.int p2), (.int p3), (.int p4)] below meth c T71 L 1 34 ∧ Fr n0 L := ⟨_, X71, N⟩
  refine OwnGo.fwd (fun tq' kq' => XS.dup X73.here hx rfl (hb hby at_158) rfl rfl kq') ?_
  show OwnGo _ _ _ _ (T71.setTop (mkF m 159 #[.val (.int p1), .val (.int p2), .val (.int p3), .val (.int p4), .unset, .unset, .unset, .unset, .unset, .unset] [(.ref b1), (.ref b1)]))
  refine OwnGo.fwd (fun tq' kq' => XS.bipush X73.here hx rfl (hb hby at_159) kq') ?_
  show OwnGo _ _ _ _ (T71.setTop (mkF m 161 #[.val (.int p1), .val (.int p2), .val (.int p3), .val (.int p4), .unset, .unset, .unset, .unset, .unset, .unset] [(.int (24 : Int32)), (.ref b1), (.ref b1)]))
  refine OwnGo.fwd (fun tq' kq' => XS.sipush X73.here hx rfl (hb hby at_161) kq') ?_
  show OwnGo _ _ _ _ (T71.setTop (mkF m 164 #[.val (.int p1), .val (.int p2), .val (.int p3), .val (.int p4), .unset, .unset, .unset, .unset, .unset, .unset] [(.int (11264 : Int32)), (.int (24 : Int32)), (.ref b1), (.ref b1)]))
  obtain ⟨T74, h74, X74, e74, W74, V74, st74⟩ := own_iastore X73 hx hZ e71 V_b1 (i := 24) (by decide) (by decide) (g := (mkF m 164 #[.val (.int p1), .val (.int p2), .val (.int p3), .val (.int p4), .unset, .unset, .unset, .unset, .unset, .unset] [(.int (11264 : Int32)), (.int (24 : Int32)), (.ref b1), (.ref b1)])) rfl rfl (hb hby at_164)
  have Zs := Nat.le_trans Zs (Keep.of_wr W74).1
  have N := Fr.snoc X74 N g_b1
  have V_b1 := V74
  refine OwnGo.fwd st74 ?_
  show OwnGo _ _ _ _ (T74.setTop (mkF m 165 #[.val (.int p1), .val (.int p2), .val (.int p3), .val (.int p4), .unset, .unset, .unset, .unset, .unset, .unset] [(.ref b1)]))
  obtain ⟨f75, V_b1⟩ : ∃ f, OwnIA Z h74 b1 34 f := ⟨_, V_b1⟩
  obtain ⟨LL76, X76, N⟩ : ∃ L, Stand p l e room_1 s m #[(.int p1), (.int p2), (.int p3), (.int p4)] below meth c T74 L 1 34 ∧ Fr n0 L := ⟨_, X74, N⟩
  refine OwnGo.fwd (fun tq' kq' => XS.dup X76.here hx rfl (hb hby at_165) rfl rfl kq') ?_
  show OwnGo _ _ _ _ (T74.setTop (mkF m 166 #[.val (.int p1), .val (.int p2), .val (.int p3), .val (.int p4), .unset, .unset, .unset, .unset, .unset, .unset] [(.ref b1), (.ref b1)]))
  refine OwnGo.fwd (fun tq' kq' => XS.bipush X76.here hx rfl (hb hby at_166) kq') ?_
  show OwnGo _ _ _ _ (T74.setTop (mkF m 168 #[.val (.int p1), .val (.int p2), .val (.int p3), .val (.int p4), .unset, .unset, .unset, .unset, .unset, .unset] [(.int (25 : Int32)), (.ref b1), (.ref b1)]))
  refine OwnGo.fwd (fun tq' kq' => XS.sipush X76.here hx rfl (hb hby at_168) kq') ?_
  show OwnGo _ _ _ _ (T74.setTop (mkF m 171 #[.val (.int p1), .val (.int p2), .val (.int p3), .val (.int p4), .unset, .unset, .unset, .unset, .unset, .unset] [(.int (12271 : Int32)), (.int (25 : Int32)), (.ref b1), (.ref b1)]))
  obtain ⟨T77, h77, X77, e77, W77, V77, st77⟩ := own_iastore X76 hx hZ e74 V_b1 (i := 25) (by decide) (by decide) (g := (mkF m 171 #[.val (.int p1), .val (.int p2), .val (.int p3), .val (.int p4), .unset, .unset, .unset, .unset, .unset, .unset] [(.int (12271 : Int32)), (.int (25 : Int32)), (.ref b1), (.ref b1)])) rfl rfl (hb hby at_171)
  have Zs := Nat.le_trans Zs (Keep.of_wr W77).1
  have N := Fr.snoc X77 N g_b1
  have V_b1 := V77
  refine OwnGo.fwd st77 ?_
  show OwnGo _ _ _ _ (T77.setTop (mkF m 172 #[.val (.int p1), .val (.int p2), .val (.int p3), .val (.int p4), .unset, .unset, .unset, .unset, .unset, .unset] [(.ref b1)]))
  obtain ⟨f78, V_b1⟩ : ∃ f, OwnIA Z h77 b1 34 f := ⟨_, V_b1⟩
  obtain ⟨LL79, X79, N⟩ : ∃ L, Stand p l e room_1 s m #[(.int p1), (.int p2), (.int p3), (.int p4)] below meth c T77 L 1 34 ∧ Fr n0 L := ⟨_, X77, N⟩
  refine OwnGo.fwd (fun tq' kq' => XS.dup X79.here hx rfl (hb hby at_172) rfl rfl kq') ?_
  show OwnGo _ _ _ _ (T77.setTop (mkF m 173 #[.val (.int p1), .val (.int p2), .val (.int p3), .val (.int p4), .unset, .unset, .unset, .unset, .unset, .unset] [(.ref b1), (.ref b1)]))
  refine OwnGo.fwd (fun tq' kq' => XS.bipush X79.here hx rfl (hb hby at_173) kq') ?_
  show OwnGo _ _ _ _ (T77.setTop (mkF m 175 #[.val (.int p1), .val (.int p2), .val (.int p3), .val (.int p4), .unset, .unset, .unset, .unset, .unset, .unset] [(.int (26 : Int32)), (.ref b1), (.ref b1)]))
  refine OwnGo.fwd (fun tq' kq' => XS.sipush X79.here hx rfl (hb hby at_175) kq') ?_
  show OwnGo _ _ _ _ (T77.setTop (mkF m 178 #[.val (.int p1), .val (.int p2), .val (.int p3), .val (.int p4), .unset, .unset, .unset, .unset, .unset, .unset] [(.int (12289 : Int32)), (.int (26 : Int32)), (.ref b1), (.ref b1)]))
  obtain ⟨T80, h80, X80, e80, W80, V80, st80⟩ := own_iastore X79 hx hZ e77 V_b1 (i := 26) (by decide) (by decide) (g := (mkF m 178 #[.val (.int p1), .val (.int p2), .val (.int p3), .val (.int p4), .unset, .unset, .unset, .unset, .unset, .unset] [(.int (12289 : Int32)), (.int (26 : Int32)), (.ref b1), (.ref b1)])) rfl rfl (hb hby at_178)
  have Zs := Nat.le_trans Zs (Keep.of_wr W80).1
  have N := Fr.snoc X80 N g_b1
  have V_b1 := V80
  refine OwnGo.fwd st80 ?_
  show OwnGo _ _ _ _ (T80.setTop (mkF m 179 #[.val (.int p1), .val (.int p2), .val (.int p3), .val (.int p4), .unset, .unset, .unset, .unset, .unset, .unset] [(.ref b1)]))
  obtain ⟨f81, V_b1⟩ : ∃ f, OwnIA Z h80 b1 34 f := ⟨_, V_b1⟩
  obtain ⟨LL82, X82, N⟩ : ∃ L, Stand p l e room_1 s m #[(.int p1), (.int p2), (.int p3), (.int p4)] below meth c T80 L 1 34 ∧ Fr n0 L := ⟨_, X80, N⟩
  refine OwnGo.fwd (fun tq' kq' => XS.dup X82.here hx rfl (hb hby at_179) rfl rfl kq') ?_
  show OwnGo _ _ _ _ (T80.setTop (mkF m 180 #[.val (.int p1), .val (.int p2), .val (.int p3), .val (.int p4), .unset, .unset, .unset, .unset, .unset, .unset] [(.ref b1), (.ref b1)]))
  refine OwnGo.fwd (fun tq' kq' => XS.bipush X82.here hx rfl (hb hby at_180) kq') ?_
  show OwnGo _ _ _ _ (T80.setTop (mkF m 182 #[.val (.int p1), .val (.int p2), .val (.int p3), .val (.int p4), .unset, .unset, .unset, .unset, .unset, .unset] [(.int (27 : Int32)), (.ref b1), (.ref b1)]))
  refine OwnGo.fwd (fun tq' kq' => X82.ldcInt hx hown (mvT hZ (hw _ (List.mem_of_getElem? (i := 1) rfl))) (g := (mkF m 182 #[.val (.int p1), .val (.int p2), .val (.int p3), .val (.int p4), .unset, .unset, .unset, .unset, .unset, .unset] [(.int (27 : Int32)), (.ref b1), (.ref b1)])) rfl (hb hby at_182) tq' kq') ?_
  show OwnGo _ _ _ _ (T80.setTop (mkF m 184 #[.val (.int p1), .val (.int p2), .val (.int p3), .val (.int p4), .unset, .unset, .unset, .unset, .unset, .unset] [(.int (55295 : Int32)), (.int (27 : Int32)), (.ref b1), (.ref b1)]))
  obtain ⟨T83, h83, X83, e83, W83, V83, st83⟩ := own_iastore X82 hx hZ e80 V_b1 (i := 27) (by decide) (by decide) (g := (mkF m 184 #[.val (.int p1), .val (.int p2), .val (.int p3), .val (.int p4), .unset, .unset, .unset, .unset, .unset, .unset] [(.int (55295 : Int32)), (.int (27 : Int32)), (.ref b1), (.ref b1)])) rfl rfl (hb hby at_184)
  have Zs := Nat.le_trans Zs (Keep.of_wr W83).1
  have N := Fr.snoc X83 N g_b1
  have V_b1 := V83
  refine OwnGo.fwd st83 ?_
  show OwnGo _ _ _ _ (T83.setTop (mkF m 185 #[.val (.int p1), .val (.int p2), .val (.int p3), .val (.int p4), .unset, .unset, .unset, .unset, .unset, .unset] [(.ref b1)]))
  obtain ⟨f84, V_b1⟩ : ∃ f, OwnIA Z h83 b1 34 f := ⟨_, V_b1⟩
  obtain ⟨LL85, X85, N⟩ : ∃ L, Stand p l e room_1 s m #[(.int p1), (.int p2), (.int p3), (.int p4)] below meth c T83 L 1 34 ∧ Fr n0 L := ⟨_, X83, N⟩
  refine OwnGo.fwd (fun tq' kq' => XS.dup X85.here hx rfl (hb hby at_185) rfl rfl kq') ?_
  show OwnGo _ _ _ _ (T83.setTop (mkF m 186 #[.val (.int p1), .val (.int p2), .val (.int p3), .val (.int p4), .unset, .unset, .unset, .unset, .unset, .unset] [(.ref b1), (.ref b1)]))
  refine OwnGo.fwd (fun tq' kq' => XS.bipush X85.here hx rfl (hb hby at_186) kq') ?_
  show OwnGo _ _ _ _ (T83.setTop (mkF m 188 #[.val (.int p1), .val (.int p2), .val (.int p3), .val (.int p4), .unset, .unset, .unset, .unset, .unset, .unset] [(.int (28 : Int32)), (.ref b1), (.ref b1)]))
  refine OwnGo.fwd (fun tq' kq' => X85.ldcInt hx hown (mvT hZ (hw _ (List.mem_of_getElem? (i := 2) rfl))) (g := (mkF m 188 #[.val (.int p1), .val (.int p2), .val (.int p3), .val (.int p4), .unset, .unset, .unset, .unset, .unset, .unset] [(.int (28 : Int32)), (.ref b1), (.ref b1)])) rfl (hb hby at_188) tq' kq') ?_
  show OwnGo _ _ _ _ (T83.setTop (mkF m 190 #[.val (.int p1), .val (.int p2), .val (.int p3), .val (.int p4), .unset, .unset, .unset, .unset, .unset, .unset] [(.int (63744 : Int32)), (.int (28 : Int32)), (.ref b1), (.ref b1)]))
  obtain ⟨T86, h86, X86, e86, W86, V86, st86⟩ := own_iastore X85 hx hZ e83 V_b1 (i := 28) (by decide) (by decide) (g := (mkF m 190 #[.val (.int p1), .val (.int p2), .val (.int p3), .val (.int p4), .unset, .unset, .unset, .unset, .unset, .unset] [(.int (63744 : Int32)), (.int (28 : Int32)), (.ref b1), (.ref b1)])) rfl rfl (hb hby at_190)
  have Zs := Nat.le_trans Zs (Keep.of_wr W86).1
  have N := Fr.snoc X86 N g_b1
  have V_b1 := V86
  refine OwnGo.fwd st86 ?_
  show OwnGo _ _ _ _ (T86.setTop (mkF m 191 #[.val (.int p1), .val (.int p2), .val (.int p3), .val (.int p4), .unset, .unset, .unset, .unset, .unset, .unset] [(.ref b1)]))
  obtain ⟨f87, V_b1⟩ : ∃ f, OwnIA Z h86 b1 34 f := ⟨_, V_b1⟩
  obtain ⟨LL88, X88, N⟩ : ∃ L, Stand p l e room_1 s m #[(.int p1), (.int p2), (.int p3), (.int p4)] below meth c T86 L 1 34 ∧ Fr n0 L := ⟨_, X86, N⟩
  refine OwnGo.fwd (fun tq' kq' => XS.dup X88.here hx rfl (hb hby at_191) rfl rfl kq') ?_
  show OwnGo _ _ _ _ (T86.setTop (mkF m 192 #[.val (.int p1), .val (.int p2), .val (.int p3), .val (.int p4), .unset, .unset, .unset, .unset, .unset, .unset] [(.ref b1), (.ref b1)]))
  refine OwnGo.fwd (fun tq' kq' => XS.bipush X88.here hx rfl (hb hby at_192) kq') ?_
  show OwnGo _ _ _ _ (T86.setTop (mkF m 194 #[.val (.int p1), .val (.int p2), .val (.int p3), .val (.int p4), .unset, .unset, .unset, .unset, .unset, .unset] [(.int (29 : Int32)), (.ref b1), (.ref b1)]))
  refine OwnGo.fwd (fun tq' kq' => X88.ldcInt hx hown (mvT hZ (hw _ (List.mem_of_getElem? (i := 3) rfl))) (g := (mkF m 194 #[.val (.int p1), .val (.int p2), .val (.int p3), .val (.int p4), .unset, .unset, .unset, .unset, .unset, .unset] [(.int (29 : Int32)), (.ref b1), (.ref b1)])) rfl (hb hby at_194) tq' kq') ?_
  show OwnGo _ _ _ _ (T86.setTop (mkF m 196 #[.val (.int p1), .val (.int p2), .val (.int p3), .val (.int p4), .unset, .unset, .unset, .unset, .unset, .unset] [(.int (64975 : Int32)), (.int (29 : Int32)), (.ref b1), (.ref b1)]))
  obtain ⟨T89, h89, X89, e89, W89, V89, st89⟩ := own_iastore X88 hx hZ e86 V_b1 (i := 29) (by decide) (by decide) (g := (mkF m 196 #[.val (.int p1), .val (.int p2), .val (.int p3), .val (.int p4), .unset, .unset, .unset, .unset, .unset, .unset] [(.int (64975 : Int32)), (.int (29 : Int32)), (.ref b1), (.ref b1)])) rfl rfl (hb hby at_196)
  have Zs := Nat.le_trans Zs (Keep.of_wr W89).1
  have N := Fr.snoc X89 N g_b1
  have V_b1 := V89
  refine OwnGo.fwd st89 ?_
  show OwnGo _ _ _ _ (T89.setTop (mkF m 197 #[.val (.int p1), .val (.int p2), .val (.int p3), .val (.int p4), .unset, .unset, .unset, .unset, .unset, .unset] [(.ref b1)]))
  obtain ⟨f90, V_b1⟩ : ∃ f, OwnIA Z h89 b1 34 f := ⟨_, V_b1⟩
  obtain ⟨LL91, X91, N⟩ : ∃ L, Stand p l e room_1 s m #[(.int p1), (.int p2), (.int p3), (.int p4)] below meth c T89 L 1 34 ∧ Fr n0 L := ⟨_, X89, N⟩
  refine OwnGo.fwd (fun tq' kq' => XS.dup X91.here hx rfl (hb hby at_197) rfl rfl kq') ?_
  show OwnGo _ _ _ _ (T89.setTop (mkF m 198 #[.val (.int p1), .val (.int p2), .val (.int p3), .val (.int p4), .unset, .unset, .unset, .unset, .unset, .unset] [(.ref b1), (.ref b1)]))
  refine OwnGo.fwd (fun tq' kq' => XS.bipush X91.here hx rfl (hb hby at_198) kq') ?_
  show OwnGo _ _ _ _ (T89.setTop (mkF m 200 #[.val (.int p1), .val (.int p2), .val (.int p3), .val (.int p4), .unset, .unset, .unset, .unset, .unset, .unset] [(.int (30 : Int32)), (.ref b1), (.ref b1)]))
  refine OwnGo.fwd (fun tq' kq' => X91.ldcInt hx hown (mvT hZ (hw _ (List.mem_of_getElem? (i := 4) rfl))) (g := (mkF m 200 #[.val (.int p1), .val (.int p2), .val (.int p3), .val (.int p4), .unset, .unset, .unset, .unset, .unset, .unset] [(.int (30 : Int32)), (.ref b1), (.ref b1)])) rfl (hb hby at_200) tq' kq') ?_
  show OwnGo _ _ _ _ (T89.setTop (mkF m 202 #[.val (.int p1), .val (.int p2), .val (.int p3), .val (.int p4), .unset, .unset, .unset, .unset, .unset, .unset] [(.int (65008 : Int32)), (.int (30 : Int32)), (.ref b1), (.ref b1)]))
  obtain ⟨T92, h92, X92, e92, W92, V92, st92⟩ := own_iastore X91 hx hZ e89 V_b1 (i := 30) (by decide) (by decide) (g := (mkF m 202 #[.val (.int p1), .val (.int p2), .val (.int p3), .val (.int p4), .unset, .unset, .unset, .unset, .unset, .unset] [(.int (65008 : Int32)), (.int (30 : Int32)), (.ref b1), (.ref b1)])) rfl rfl (hb hby at_202)
  have Zs := Nat.le_trans Zs (Keep.of_wr W92).1
  have N := Fr.snoc X92 N g_b1
  have V_b1 := V92
  refine OwnGo.fwd st92 ?_
  show OwnGo _ _ _ _ (T92.setTop (mkF m 203 #[.val (.int p1), .val (.int p2), .val (.int p3), .val (.int p4), .unset, .unset, .unset, .unset, .unset, .unset] [(.ref b1)]))
  obtain ⟨f93, V_b1⟩ : ∃ f, OwnIA Z h92 b1 34 f := ⟨_, V_b1⟩
  obtain ⟨LL94, X94, N⟩ : ∃ L, Stand p l e room_1 s m #[(.int p1), (.int p2), (.int p3), (.int p4)] below meth c T92 L 1 34 ∧ Fr n0 L := ⟨_, X92, N⟩
  refine OwnGo.fwd (fun tq' kq' => XS.dup X94.here hx rfl (hb hby at_203) rfl rfl kq') ?_
  show OwnGo _ _ _ _ (T92.setTop (mkF m 204 #[.val (.int p1), .val (.int p2), .val (.int p3), .val (.int p4), .unset, .unset, .unset, .unset, .unset, .unset] [(.ref b1), (.ref b1)]))
  refine OwnGo.fwd (fun tq' kq' => XS.bipush X94.here hx rfl (hb hby at_204) kq') ?_
  show OwnGo _ _ _ _ (T92.setTop (mkF m 206 #[.val (.int p1), .val (.int p2), .val (.int p3), .val (.int p4), .unset, .unset, .unset, .unset, .unset, .unset] [(.int (31 : Int32)), (.ref b1), (.ref b1)]))
  refine OwnGo.fwd (fun tq' kq' => X94.ldcInt hx hown (mvT hZ (hw _ (List.mem_of_getElem? (i := 5) rfl))) (g := (mkF m 206 #[.val (.int p1), .val (.int p2), .val (.int p3), .val (.int p4), .unset, .unset, .unset, .unset, .unset, .unset] [(.int (31 : Int32)), (.ref b1), (.ref b1)])) rfl (hb hby at_206) tq' kq') ?_
  show OwnGo _ _ _ _ (T92.setTop (mkF m 208 #[.val (.int p1), .val (.int p2), .val (.int p3), .val (.int p4), .unset, .unset, .unset, .unset, .unset, .unset] [(.int (65533 : Int32)), (.int (31 : Int32)), (.ref b1), (.ref b1)]))
  obtain ⟨T95, h95, X95, e95, W95, V95, st95⟩ := own_iastore X94 hx hZ e92 V_b1 (i := 31) (by decide) (by decide) (g := (mkF m 208 #[.val (.int p1), .val (.int p2), .val (.int p3), .val (.int p4), .unset, .unset, .unset, .unset, .unset, .unset] [(.int (65533 : Int32)), (.int (31 : Int32)), (.ref b1), (.ref b1)])) rfl rfl (hb hby at_208)
  have Zs := Nat.le_trans Zs (Keep.of_wr W95).1
  have N := Fr.snoc X95 N g_b1
  have V_b1 := V95
  refine OwnGo.fwd st95 ?_
  show OwnGo _ _ _ _ (T95.setTop (mkF m 209 #[.val (.int p1), .val (.int p2), .val (.int p3), .val (.int p4), .unset, .unset, .unset, .unset, .unset, .unset] [(.ref b1)]))
  obtain ⟨f96, V_b1⟩ : ∃ f, OwnIA Z h95 b1 34 f := ⟨_, V_b1⟩
  obtain ⟨LL97, X97, N⟩ : ∃ L, Stand p l e room_1 s m #[(.int p1), (.int p2), (.int p3), (.int p4)] below meth c T95 L 1 34 ∧ Fr n0 L := ⟨_, X95, N⟩
  refine OwnGo.fwd (fun tq' kq' => XS.dup X97.here hx rfl (hb hby at_209) rfl rfl kq') ?_
  show OwnGo _ _ _ _ (T95.setTop (mkF m 210 #[.val (.int p1), .val (.int p2), .val (.int p3), .val (.int p4), .unset, .unset, .unset, .unset, .unset, .unset] [(.ref b1), (.ref b1)]))
  refine OwnGo.fwd (fun tq' kq' => XS.bipush X97.here hx rfl (hb hby at_210) kq') ?_
  show OwnGo _ _ _ _ (T95.setTop (mkF m 212 #[.val (.int p1), .val (.int p2), .val (.int p3), .val (.int p4), .unset, .unset, .unset, .unset, .unset, .unset] [(.int (32 : Int32)), (.ref b1), (.ref b1)]))
  refine OwnGo.fwd (fun tq' kq' => X97.ldcInt hx hown (mvT hZ (hw _ (List.mem_of_getElem? (i := 6) rfl))) (g := (mkF m 212 #[.val (.int p1), .val (.int p2), .val (.int p3), .val (.int p4), .unset, .unset, .unset, .unset, .unset, .unset] [(.int (32 : Int32)), (.ref b1), (.ref b1)])) rfl (hb hby at_212) tq' kq') ?_
  show OwnGo _ _ _ _ (T95.setTop (mkF m 214 #[.val (.int p1), .val (.int p2), .val (.int p3), .val (.int p4), .unset, .unset, .unset, .unset, .unset, .unset] [(.int (65536 : Int32)), (.int (32 : Int32)), (.ref b1), (.ref b1)]))
  obtain ⟨T98, h98, X98, e98, W98, V98, st98⟩ := own_iastore X97 hx hZ e95 V_b1 (i := 32) (by decide) (by decide) (g := (mkF m 214 #[.val (.int p1), .val (.int p2), .val (.int p3), .val (.int p4), .unset, .unset, .unset, .unset, .unset, .unset] [(.int (65536 : Int32)), (.int (32 : Int32)), (.ref b1), (.ref b1)])) rfl rfl (hb hby at_214)
  have Zs := Nat.le_trans Zs (Keep.of_wr W98).1
  have N := Fr.snoc X98 N g_b1
  have V_b1 := V98
  refine OwnGo.fwd st98 ?_
  show OwnGo _ _ _ _ (T98.setTop (mkF m 215 #[.val (.int p1), .val (.int p2), .val (.int p3), .val (.int p4), .unset, .unset, .unset, .unset, .unset, .unset] [(.ref b1)]))
  obtain ⟨f99, V_b1⟩ : ∃ f, OwnIA Z h98 b1 34 f := ⟨_, V_b1⟩
  obtain ⟨LL100, X100, N⟩ : ∃ L, Stand p l e room_1 s m #[(.int p1), (.int p2), (.int p3), (.int p4)] below meth c T98 L 1 34 ∧ Fr n0 L := ⟨_, X98, N⟩
  refine OwnGo.fwd (fun tq' kq' => XS.dup X100.here hx rfl (hb hby at_215) rfl rfl kq') ?_
  show OwnGo _ _ _ _ (T98.setTop (mkF m 216 #[.val (.int p1), .val (.int p2), .val (.int p3), .val (.int p4), .unset, .unset, .unset, .unset, .unset, .unset] [(.ref b1), (.ref b1)]))
  refine OwnGo.fwd (fun tq' kq' => XS.bipush X100.here hx rfl (hb hby at_216) kq') ?_
  show OwnGo _ _ _ _ (T98.setTop (mkF m 218 #[.val (.int p1), .val (.int p2), .val (.int p3), .val (.int p4), .unset, .unset, .unset, .unset, .unset, .unset] [(.int (33 : Int32)), (.ref b1), (.ref b1)]))
  refine OwnGo.fwd (fun tq' kq' => X100.ldcInt hx hown (mvT hZ (hw _ (List.mem_of_getElem? (i := 7) rfl))) (g := (mkF m 218 #[.val (.int p1), .val (.int p2), .val (.int p3), .val (.int p4), .unset, .unset, .unset, .unset, .unset, .unset] [(.int (33 : Int32)), (.ref b1), (.ref b1)])) rfl (hb hby at_218) tq' kq') ?_
  show OwnGo _ _ _ _ (T98.setTop (mkF m 220 #[.val (.int p1), .val (.int p2), .val (.int p3), .val (.int p4), .unset, .unset, .unset, .unset, .unset, .unset] [(.int (983039 : Int32)), (.int (33 : Int32)), (.ref b1), (.ref b1)]))
  obtain ⟨T101, h101, X101, e101, W101, V101, st101⟩ := own_iastore X100 hx hZ e98 V_b1 (i := 33) (by decide) (by decide) (g := (mkF m 220 #[.val (.int p1), .val (.int p2), .val (.int p3), .val (.int p4), .unset, .unset, .unset, .unset, .unset, .unset] [(.int (983039 : Int32)), (.int (33 : Int32)), (.ref b1), (.ref b1)])) rfl rfl (hb hby at_220)
  have Zs := Nat.le_trans Zs (Keep.of_wr W101).1
  have N := Fr.snoc X101 N g_b1
  have V_b1 := V101
  refine OwnGo.fwd st101 ?_
  show OwnGo _ _ _ _ (T101.setTop (mkF m 221 #[.val (.int p1), .val (.int p2), .val (.int p3), .val (.int p4), .unset, .unset, .unset, .unset, .unset, .unset] [(.ref b1)]))
  obtain ⟨f102, V_b1⟩ : ∃ f, OwnIA Z h101 b1 34 f := ⟨_, V_b1⟩
  obtain ⟨LL103, X103, N⟩ : ∃ L, Stand p l e room_1 s m #[(.int p1), (.int p2), (.int p3), (.int p4)] below meth c T101 L 1 34 ∧ Fr n0 L := ⟨_, X101, N⟩
  refine OwnGo.fwd (fun tq' kq' => XS.astore X103.here hx rfl (hb hby at_221) rfl rfl (l' := #[.val (.int p1), .val (.int p2), .val (.int p3), .val (.int p4), .val (.ref b1), .unset, .unset, .unset, .unset, .unset]) rfl kq') ?_
  show OwnGo _ _ _ _ (T101.setTop (mkF m 223 #[.val (.int p1), .val (.int p2), .val (.int p3), .val (.int p4), .val (.ref b1), .unset, .unset, .unset, .unset, .unset] []))
  refine OwnGo.fwd (fun tq' kq' => XS.aload X103.here hx rfl (hb hby at_223) rfl rfl kq') ?_
  show OwnGo _ _ _ _ (T101.setTop (mkF m 225 #[.val (.int p1), .val (.int p2), .val (.int p3), .val (.int p4), .val (.ref b1), .unset, .unset, .unset, .unset, .unset] [(.ref b1)]))
  refine OwnGo.fwd (fun tq' kq' => XS.iloadN X103.here hx rfl (hb hby at_225) rfl kq') ?_
  show OwnGo _ _ _ _ (T101.setTop (mkF m 226 #[.val (.int p1), .val (.int p2), .val (.int p3), .val (.int p4), .val (.ref b1), .unset, .unset, .unset, .unset, .unset] [(.int p2), (.ref b1)]))
  refine OwnGo.fwd (fun tq' kq' => X103.ldcInt hx hown (mvT hZ (hw _ (List.mem_of_getElem? (i := 8) rfl))) (g := (mkF m 226 #[.val (.int p1), .val (.int p2), .val (.int p3), .val (.int p4), .val (.ref b1), .unset, .unset, .unset, .unset, .unset] [(.int p2), (.ref b1)])) rfl (hb hby at_226) tq' kq') ?_
  show OwnGo _ _ _ _ (T101.setTop (mkF m 228 #[.val (.int p1), .val (.int p2), .val (.int p3), .val (.int p4), .val (.ref b1), .unset, .unset, .unset, .unset, .unset] [(.int (2147483647 : Int32)), (.int p2), (.ref b1)]))
  refine OwnGo.fwd (fun tq' kq' => XS.iand X103.here hx rfl (hb hby at_228) rfl kq') ?_
  show OwnGo _ _ _ _ (T101.setTop (mkF m 229 #[.val (.int p1), .val (.int p2), .val (.int p3), .val (.int p4), .val (.ref b1), .unset, .unset, .unset, .unset, .unset] [(.int (p2 &&& (2147483647 : Int32))), (.ref b1)]))
  refine OwnGo.fwd (fun tq' kq' => XS.aload X103.here hx rfl (hb hby at_229) rfl rfl kq') ?_
  show OwnGo _ _ _ _ (T101.setTop (mkF m 231 #[.val (.int p1), .val (.int p2), .val (.int p3), .val (.int p4), .val (.ref b1), .unset, .unset, .unset, .unset, .unset] [(.ref b1), (.int (p2 &&& (2147483647 : Int32))), (.ref b1)]))
  refine OwnGo.fwd (fun tq' kq' => own_len X103 hx hZ e101 V_b1 (g := (mkF m 231 #[.val (.int p1), .val (.int p2), .val (.int p3), .val (.int p4), .val (.ref b1), .unset, .unset, .unset, .unset, .unset] [(.ref b1), (.int (p2 &&& (2147483647 : Int32))), (.ref b1)])) rfl rfl (hb hby at_231) tq' kq') ?_
  show OwnGo _ _ _ _ (T101.setTop (mkF m 232 #[.val (.int p1), .val (.int p2), .val (.int p3), .val (.int p4), .val (.ref b1), .unset, .unset, .unset, .unset, .unset] [(.int (Int32.ofNat 34)), (.int (p2 &&& (2147483647 : Int32))), (.ref b1)]))
  refine OwnGo.fwd (fun tq' kq' => iremM X103 hx rfl (hb hby at_232) rfl (by decide) kq') ?_
  show OwnGo _ _ _ _ (T101.setTop (mkF m 233 #[.val (.int p1), .val (.int p2), .val (.int p3), .val (.int p4), .val (.ref b1), .unset, .unset, .unset, .unset, .unset] [(.int ((p2 &&& (2147483647 : Int32)) % (Int32.ofNat 34))), (.ref b1)]))
  obtain ⟨jj, hv_jj⟩ : ∃ q : Int32, q = ((p2 &&& (2147483647 : Int32)) % (Int32.ofNat 34)) := ⟨_, rfl⟩
  rw [← hv_jj]
  show OwnGo _ _ _ _ (T101.setTop (mkF m 233 #[.val (.int p1), .val (.int p2), .val (.int p3), .val (.int p4), .val (.ref b1), .unset, .unset, .unset, .unset, .unset] [(.int jj), (.ref b1)]))
  obtain ⟨ji, hji, lji⟩ := own_idx p2
  rw [← hv_jj] at hji
  refine OwnGo.fwd (fun tq' kq' => own_iaload X103 hx hZ e101 V_b1 (i := ji) hji lji (g := (mkF m 233 #[.val (.int p1), .val (.int p2), .val (.int p3), .val (.int p4), .val (.ref b1), .unset, .unset, .unset, .unset, .unset] [(.int jj), (.ref b1)])) rfl rfl (hb hby at_233) tq' kq') ?_
  show OwnGo _ _ _ _ (T101.setTop (mkF m 234 #[.val (.int p1), .val (.int p2), .val (.int p3), .val (.int p4), .val (.ref b1), .unset, .unset, .unset, .unset, .unset] [(.int (f102 ji))]))
  refine OwnGo.fwd (fun tq' kq' => XS.iloadN X103.here hx rfl (hb hby at_234) rfl kq') ?_
  show OwnGo _ _ _ _ (T101.setTop (mkF m 235 #[.val (.int p1), .val (.int p2), .val (.int p3), .val (.int p4), .val (.ref b1), .unset, .unset, .unset, .unset, .unset] [(.int p3), (.int (f102 ji))]))
  refine OwnGo.fwd (fun tq' kq' => X103.ldcInt hx hown (mvT hZ (hw _ (List.mem_of_getElem? (i := 8) rfl))) (g := (mkF m 235 #[.val (.int p1), .val (.int p2), .val (.int p3), .val (.int p4), .val (.ref b1), .unset, .unset, .unset, .unset, .unset] [(.int p3), (.int (f102 ji))])) rfl (hb hby at_235) tq' kq') ?_
  show OwnGo _ _ _ _ (T101.setTop (mkF m 237 #[.val (.int p1), .val (.int p2), .val (.int p3), .val (.int p4), .val (.ref b1), .unset, .unset, .unset, .unset, .unset] [(.int (2147483647 : Int32)), (.int p3), (.int (f102 ji))]))
  refine OwnGo.fwd (fun tq' kq' => XS.iand X103.here hx rfl (hb hby at_237) rfl kq') ?_
  show OwnGo _ _ _ _ (T101.setTop (mkF m 238 #[.val (.int p1), .val (.int p2), .val (.int p3), .val (.int p4), .val (.ref b1), .unset, .unset, .unset, .unset, .unset] [(.int (p3 &&& (2147483647 : Int32))), (.int (f102 ji))]))
  refine OwnGo.fwd (fun tq' kq' => XS.iconst X103.here hx rfl (hb hby at_238) kq') ?_
  show OwnGo _ _ _ _ (T101.setTop (mkF m 239 #[.val (.int p1), .val (.int p2), .val (.int p3), .val (.int p4), .val (.ref b1), .unset, .unset, .unset, .unset, .unset] [(.int (5 : Int32)), (.int (p3 &&& (2147483647 : Int32))), (.int (f102 ji))]))
  refine OwnGo.fwd (fun tq' kq' => iremM X103 hx rfl (hb hby at_239) rfl (by decide) kq') ?_
  show OwnGo _ _ _ _ (T101.setTop (mkF m 240 #[.val (.int p1), .val (.int p2), .val (.int p3), .val (.int p4), .val (.ref b1), .unset, .unset, .unset, .unset, .unset] [(.int ((p3 &&& (2147483647 : Int32)) % (5 : Int32))), (.int (f102 ji))]))
  refine OwnGo.fwd (fun tq' kq' => XS.iadd X103.here hx rfl (hb hby at_240) rfl kq') ?_
  show OwnGo _ _ _ _ (T101.setTop (mkF m 241 #[.val (.int p1), .val (.int p2), .val (.int p3), .val (.int p4), .val (.ref b1), .unset, .unset, .unset, .unset, .unset] [(.int ((f102 ji) + ((p3 &&& (2147483647 : Int32)) % (5 : Int32))))]))
  refine OwnGo.fwd (fun tq' kq' => XS.iconst X103.here hx rfl (hb hby at_241) kq') ?_
  show OwnGo _ _ _ _ (T101.setTop (mkF m 242 #[.val (.int p1), .val (.int p2), .val (.int p3), .val (.int p4), .val (.ref b1), .unset, .unset, .unset, .unset, .unset] [(.int (2 : Int32)), (.int ((f102 ji) + ((p3 &&& (2147483647 : Int32)) % (5 : Int32))))]))
  refine OwnGo.fwd (fun tq' kq' => XS.isub X103.here hx rfl (hb hby at_242) rfl kq') ?_
  show OwnGo _ _ _ _ (T101.setTop (mkF m 243 #[.val (.int p1), .val (.int p2), .val (.int p3), .val (.int p4), .val (.ref b1), .unset, .unset, .unset, .unset, .unset] [(.int (((f102 ji) + ((p3 &&& (2147483647 : Int32)) % (5 : Int32))) - (2 : Int32)))]))
  obtain ⟨pp, hv_pp⟩ : ∃ q : Int32, q = (((f102 ji) + ((p3 &&& (2147483647 : Int32)) % (5 : Int32))) - (2 : Int32)) := ⟨_, rfl⟩
  rw [← hv_pp]
  show OwnGo _ _ _ _ (T101.setTop (mkF m 243 #[.val (.int p1), .val (.int p2), .val (.int p3), .val (.int p4), .val (.ref b1), .unset, .unset, .unset, .unset, .unset] [(.int pp)]))
  refine OwnGo.fwd (fun tq' kq' => XS.istore X103.here hx rfl (hb hby at_243) rfl (l' := #[.val (.int p1), .val (.int p2), .val (.int p3), .val (.int p4), .val (.ref b1), .val (.int pp), .unset, .unset, .unset, .unset]) rfl kq') ?_
  show OwnGo _ _ _ _ (T101.setTop (mkF m 245 #[.val (.int p1), .val (.int p2), .val (.int p3), .val (.int p4), .val (.ref b1), .val (.int pp), .unset, .unset, .unset, .unset] []))
  refine OwnGo.fwd (fun tq' kq' => XS.iloadN X103.here hx rfl (hb hby at_245) rfl kq') ?_
  show OwnGo _ _ _ _ (T101.setTop (mkF m 246 #[.val (.int p1), .val (.int p2), .val (.int p3), .val (.int p4), .val (.ref b1), .val (.int pp), .unset, .unset, .unset, .unset] [(.int p4)]))
  refine OwnGo.fwd (fun tq' kq' => X103.ldcInt hx hown (mvT hZ (hw _ (List.mem_of_getElem? (i := 9) rfl))) (g := (mkF m 246 #[.val (.int p1), .val (.int p2), .val (.int p3), .val (.int p4), .val (.ref b1), .val (.int pp), .unset, .unset, .unset, .unset] [(.int p4)])) rfl (hb hby at_246) tq' kq') ?_
  show OwnGo _ _ _ _ (T101.setTop (mkF m 248 #[.val (.int p1), .val (.int p2), .val (.int p3), .val (.int p4), .val (.ref b1), .val (.int pp), .unset, .unset, .unset, .unset] [(.int (131071 : Int32)), (.int p4)]))
  refine OwnGo.fwd (fun tq' kq' => XS.iand X103.here hx rfl (hb hby at_248) rfl kq') ?_
  show OwnGo _ _ _ _ (T101.setTop (mkF m 249 #[.val (.int p1), .val (.int p2), .val (.int p3), .val (.int p4), .val (.ref b1), .val (.int pp), .unset, .unset, .unset, .unset] [(.int (p4 &&& (131071 : Int32)))]))
  obtain ⟨qq, hv_qq⟩ : ∃ q : Int32, q = (p4 &&& (131071 : Int32)) := ⟨_, rfl⟩
  rw [← hv_qq]
  show OwnGo _ _ _ _ (T101.setTop (mkF m 249 #[.val (.int p1), .val (.int p2), .val (.int p3), .val (.int p4), .val (.ref b1), .val (.int pp), .unset, .unset, .unset, .unset] [(.int qq)]))
  refine OwnGo.fwd (fun tq' kq' => XS.istore X103.here hx rfl (hb hby at_249) rfl (l' := #[.val (.int p1), .val (.int p2), .val (.int p3), .val (.int p4), .val (.ref b1), .val (.int pp), .val (.int qq), .unset, .unset, .unset]) rfl kq') ?_
  show OwnGo _ _ _ _ (T101.setTop (mkF m 251 #[.val (.int p1), .val (.int p2), .val (.int p3), .val (.int p4), .val (.ref b1), .val (.int pp), .val (.int qq), .unset, .unset, .unset] []))
  refine OwnGo.fwd (fun tq' kq' => XS.iloadN X103.here hx rfl (hb hby at_251) rfl kq') ?_
  show OwnGo _ _ _ _ (T101.setTop (mkF m 252 #[.val (.int p1), .val (.int p2), .val (.int p3), .val (.int p4), .val (.ref b1), .val (.int pp), .val (.int qq), .unset, .unset, .unset] [(.int p1)]))
  obtain ⟨_, _, ⟨T104, L104, k104, n104⟩, -, X104, ⟨Lc104, hQ104, l104, y104, z104⟩, st104⟩ := Jvm.LawKit.callS X103 hx (y := (⟨"org/axiswarp/xml/XmlCharacters", "isNcNameStartChar", "(I)Z"⟩ : MethodName)) hown (mvT hZ (hw _ (List.mem_of_getElem? (i := 10) rfl))) (mvT hZ (hw _ (List.mem_of_getElem? (i := 11) rfl))) (mvT hZ (hw _ (List.mem_of_getElem? (i := 12) rfl))) (mvT hZ (hw _ (List.mem_of_getElem? (i := 13) rfl))) (by decide) (backOf (W := 0) (rm1 l Z a0 hw [] p1 h101 n0 Zs) hZ (hw _ (List.mem_of_getElem? (i := 13) rfl)) (hw _ (List.mem_of_getElem? (i := 12) rfl)) (by decide) (by decide)) (g := (mkF m 252 #[.val (.int p1), .val (.int p2), .val (.int p3), .val (.int p4), .val (.ref b1), .val (.int pp), .val (.int qq), .unset, .unset, .unset] [(.int p1)])) rfl (by rw [hml]; rfl) (argsL := [(.int p1)]) (rest := []) (lenOf pd_0 rfl) rfl (by show 2 * 0 + _ ≤ _; exact Nat.le_of_eq rfl) (hb hby at_252) (fun _ _ => ⟨rfl, e101, (by decide : 1 + 0 ≤ _), (by decide : 34 + 0 ≤ _)⟩)
  dsimp only [Pt.U, Pt.locs, Pt.cells, Pt.slots] at X104 l104 y104 z104 st104 hQ104
  subst l104 y104 z104
  obtain ⟨rfl, N104q, e104⟩ := hQ104
  have N := Fr.app N N104q
  refine OwnGo.fwd st104 ?_
  show OwnGo _ _ _ _ (T104.setTop (mkF m 255 #[.val (.int p1), .val (.int p2), .val (.int p3), .val (.int p4), .val (.ref b1), .val (.int pp), .val (.int qq), .unset, .unset, .unset] [(.int (own_nc p1))]))
  refine OwnGo.fwd (fun tq' kq' => XS.iloadN X104.here hx rfl (hb hby at_255) rfl kq') ?_
  show OwnGo _ _ _ _ (T104.setTop (mkF m 256 #[.val (.int p1), .val (.int p2), .val (.int p3), .val (.int p4), .val (.ref b1), .val (.int pp), .val (.int qq), .unset, .unset, .unset] [(.int p1), (.int (own_nc p1))]))
  obtain ⟨_, _, ⟨T105, L105, k105, n105⟩, -, X105, ⟨Lc105, hQ105, l105, y105, z105⟩, st105⟩ := Jvm.LawKit.callS X104 hx (y := (⟨"org/axiswarp/xml/XmlCharactersIsNcNameStartCharPinLaw", "inGap", "(I)Z"⟩ : MethodName)) hown (mvT hZ (hw _ (List.mem_of_getElem? (i := 17) rfl))) (mvT hZ (hw _ (List.mem_of_getElem? (i := 18) rfl))) (mvT hZ (hw _ (List.mem_of_getElem? (i := 19) rfl))) (mvT hZ (hw _ (List.mem_of_getElem? (i := 20) rfl))) (by decide) (backOf (W := 1) (rm2 l Z a0 hw [] p1 h101 n0 Zs) hZ (hw _ (List.mem_of_getElem? (i := 20) rfl)) (hw _ (List.mem_of_getElem? (i := 19) rfl)) (by decide) (by decide)) (g := (mkF m 256 #[.val (.int p1), .val (.int p2), .val (.int p3), .val (.int p4), .val (.ref b1), .val (.int pp), .val (.int qq), .unset, .unset, .unset] [(.int p1), (.int (own_nc p1))])) rfl (by rw [hml]; rfl) (argsL := [(.int p1)]) (rest := [(.int (own_nc p1))]) (lenOf pd_0 rfl) rfl (by show 2 * 0 + _ ≤ _; exact Nat.le_of_eq rfl) (hb hby at_256) (fun _ _ => ⟨rfl, e104, (by decide : 1 + 0 ≤ _), (by decide : 34 + 0 ≤ _)⟩)
  dsimp only [Pt.U, Pt.locs, Pt.cells, Pt.slots] at X105 l105 y105 z105 st105 hQ105
  subst l105 y105 z105
  obtain ⟨rfl, N105q, e105⟩ := hQ105
  have N := Fr.app N N105q
  refine OwnGo.fwd st105 ?_
  show OwnGo _ _ _ _ (T105.setTop (mkF m 259 #[.val (.int p1), .val (.int p2), .val (.int p3), .val (.int p4), .val (.ref b1), .val (.int pp), .val (.int qq), .unset, .unset, .unset] [(.int (own_gp p1)), (.int (own_nc p1))]))
  have K277 : OwnGo p.tables e below (OwnEnd s (Q0 Z p1 p2 p3 p4 h0 n0) room_1.cells room_1.slots) (T105.setTop (mkF m 277 #[.val (.int p1), .val (.int p2), .val (.int p3), .val (.int p4), .val (.ref b1), .val (.int pp), .val (.int qq), .val (.int (1 : Int32)), .unset, .unset] [])) := by
    refine OwnGo.fwd (fun tq' kq' => XS.iload X105.here hx rfl (hb hby at_277) rfl kq') ?_
    show OwnGo _ _ _ _ (T105.setTop (mkF m 279 #[.val (.int p1), .val (.int p2), .val (.int p3), .val (.int p4), .val (.ref b1), .val (.int pp), .val (.int qq), .val (.int (1 : Int32)), .unset, .unset] [(.int pp)]))
    obtain ⟨_, _, ⟨T106, L106, k106, n106⟩, -, X106, ⟨Lc106, hQ106, l106, y106, z106⟩, st106⟩ := Jvm.LawKit.callS X105 hx (y := (⟨"org/axiswarp/xml/XmlCharacters", "isNcNameStartChar", "(I)Z"⟩ : MethodName)) hown (mvT hZ (hw _ (List.mem_of_getElem? (i := 10) rfl))) (mvT hZ (hw _ (List.mem_of_getElem? (i := 11) rfl))) (mvT hZ (hw _ (List.mem_of_getElem? (i := 12) rfl))) (mvT hZ (hw _ (List.mem_of_getElem? (i := 13) rfl))) (by decide) (backOf (W := 0) (rm1 l Z a0 hw [] pp h101 n0 Zs) hZ (hw _ (List.mem_of_getElem? (i := 13) rfl)) (hw _ (List.mem_of_getElem? (i := 12) rfl)) (by decide) (by decide)) (g := (mkF m 279 #[.val (.int p1), .val (.int p2), .val (.int p3), .val (.int p4), .val (.ref b1), .val (.int pp), .val (.int qq), .val (.int (1 : Int32)), .unset, .unset] [(.int pp)])) rfl (by rw [hml]; rfl) (argsL := [(.int pp)]) (rest := []) (lenOf pd_0 rfl) rfl (by show 2 * 0 + _ ≤ _; exact Nat.le_of_eq rfl) (hb hby at_279) (fun _ _ => ⟨rfl, e105, (by decide : 1 + 0 ≤ _), (by decide : 34 + 0 ≤ _)⟩)
    dsimp only [Pt.U, Pt.locs, Pt.cells, Pt.slots] at X106 l106 y106 z106 st106 hQ106
    subst l106 y106 z106
    obtain ⟨rfl, N106q, e106⟩ := hQ106
    have N := Fr.app N N106q
    refine OwnGo.fwd st106 ?_
    show OwnGo _ _ _ _ (T106.setTop (mkF m 282 #[.val (.int p1), .val (.int p2), .val (.int p3), .val (.int p4), .val (.ref b1), .val (.int pp), .val (.int qq), .val (.int (1 : Int32)), .unset, .unset] [(.int (own_nc pp))]))
    refine OwnGo.fwd (fun tq' kq' => XS.iload X106.here hx rfl (hb hby at_282) rfl kq') ?_
    show OwnGo _ _ _ _ (T106.setTop (mkF m 284 #[.val (.int p1), .val (.int p2), .val (.int p3), .val (.int p4), .val (.ref b1), .val (.int pp), .val (.int qq), .val (.int (1 : Int32)), .unset, .unset] [(.int pp), (.int (own_nc pp))]))
    obtain ⟨_, _, ⟨T107, L107, k107, n107⟩, -, X107, ⟨Lc107, hQ107, l107, y107, z107⟩, st107⟩ := Jvm.LawKit.callS X106 hx (y := (⟨"org/axiswarp/xml/XmlCharactersIsNcNameStartCharPinLaw", "inGap", "(I)Z"⟩ : MethodName)) hown (mvT hZ (hw _ (List.mem_of_getElem? (i := 17) rfl))) (mvT hZ (hw _ (List.mem_of_getElem? (i := 18) rfl))) (mvT hZ (hw _ (List.mem_of_getElem? (i := 19) rfl))) (mvT hZ (hw _ (List.mem_of_getElem? (i := 20) rfl))) (by decide) (backOf (W := 1) (rm2 l Z a0 hw [] pp h101 n0 Zs) hZ (hw _ (List.mem_of_getElem? (i := 20) rfl)) (hw _ (List.mem_of_getElem? (i := 19) rfl)) (by decide) (by decide)) (g := (mkF m 284 #[.val (.int p1), .val (.int p2), .val (.int p3), .val (.int p4), .val (.ref b1), .val (.int pp), .val (.int qq), .val (.int (1 : Int32)), .unset, .unset] [(.int pp), (.int (own_nc pp))])) rfl (by rw [hml]; rfl) (argsL := [(.int pp)]) (rest := [(.int (own_nc pp))]) (lenOf pd_0 rfl) rfl (by show 2 * 0 + _ ≤ _; exact Nat.le_of_eq rfl) (hb hby at_284) (fun _ _ => ⟨rfl, e106, (by decide : 1 + 0 ≤ _), (by decide : 34 + 0 ≤ _)⟩)
    dsimp only [Pt.U, Pt.locs, Pt.cells, Pt.slots] at X107 l107 y107 z107 st107 hQ107
    subst l107 y107 z107
    obtain ⟨rfl, N107q, e107⟩ := hQ107
    have N := Fr.app N N107q
    refine OwnGo.fwd st107 ?_
    show OwnGo _ _ _ _ (T107.setTop (mkF m 287 #[.val (.int p1), .val (.int p2), .val (.int p3), .val (.int p4), .val (.ref b1), .val (.int pp), .val (.int qq), .val (.int (1 : Int32)), .unset, .unset] [(.int (own_gp pp)), (.int (own_nc pp))]))
    have K305 : OwnGo p.tables e below (OwnEnd s (Q0 Z p1 p2 p3 p4 h0 n0) room_1.cells room_1.slots) (T107.setTop (mkF m 305 #[.val (.int p1), .val (.int p2), .val (.int p3), .val (.int p4), .val (.ref b1), .val (.int pp), .val (.int qq), .val (.int (1 : Int32)), .val (.int (1 : Int32)), .unset] [])) := by
      refine OwnGo.fwd (fun tq' kq' => XS.iload X107.here hx rfl (hb hby at_305) rfl kq') ?_
      show OwnGo _ _ _ _ (T107.setTop (mkF m 307 #[.val (.int p1), .val (.int p2), .val (.int p3), .val (.int p4), .val (.ref b1), .val (.int pp), .val (.int qq), .val (.int (1 : Int32)), .val (.int (1 : Int32)), .unset] [(.int qq)]))
      obtain ⟨_, _, ⟨T108, L108, k108, n108⟩, -, X108, ⟨Lc108, hQ108, l108, y108, z108⟩, st108⟩ := Jvm.LawKit.callS X107 hx (y := (⟨"org/axiswarp/xml/XmlCharacters", "isNcNameStartChar", "(I)Z"⟩ : MethodName)) hown (mvT hZ (hw _ (List.mem_of_getElem? (i := 10) rfl))) (mvT hZ (hw _ (List.mem_of_getElem? (i := 11) rfl))) (mvT hZ (hw _ (List.mem_of_getElem? (i := 12) rfl))) (mvT hZ (hw _ (List.mem_of_getElem? (i := 13) rfl))) (by decide) (backOf (W := 0) (rm1 l Z a0 hw [] qq h101 n0 Zs) hZ (hw _ (List.mem_of_getElem? (i := 13) rfl)) (hw _ (List.mem_of_getElem? (i := 12) rfl)) (by decide) (by decide)) (g := (mkF m 307 #[.val (.int p1), .val (.int p2), .val (.int p3), .val (.int p4), .val (.ref b1), .val (.int pp), .val (.int qq), .val (.int (1 : Int32)), .val (.int (1 : Int32)), .unset] [(.int qq)])) rfl (by rw [hml]; rfl) (argsL := [(.int qq)]) (rest := []) (lenOf pd_0 rfl) rfl (by show 2 * 0 + _ ≤ _; exact Nat.le_of_eq rfl) (hb hby at_307) (fun _ _ => ⟨rfl, e107, (by decide : 1 + 0 ≤ _), (by decide : 34 + 0 ≤ _)⟩)
      dsimp only [Pt.U, Pt.locs, Pt.cells, Pt.slots] at X108 l108 y108 z108 st108 hQ108
      subst l108 y108 z108
      obtain ⟨rfl, N108q, e108⟩ := hQ108
      have N := Fr.app N N108q
      refine OwnGo.fwd st108 ?_
      show OwnGo _ _ _ _ (T108.setTop (mkF m 310 #[.val (.int p1), .val (.int p2), .val (.int p3), .val (.int p4), .val (.ref b1), .val (.int pp), .val (.int qq), .val (.int (1 : Int32)), .val (.int (1 : Int32)), .unset] [(.int (own_nc qq))]))
      refine OwnGo.fwd (fun tq' kq' => XS.iload X108.here hx rfl (hb hby at_310) rfl kq') ?_
      show OwnGo _ _ _ _ (T108.setTop (mkF m 312 #[.val (.int p1), .val (.int p2), .val (.int p3), .val (.int p4), .val (.ref b1), .val (.int pp), .val (.int qq), .val (.int (1 : Int32)), .val (.int (1 : Int32)), .unset] [(.int qq), (.int (own_nc qq))]))
      obtain ⟨_, _, ⟨T109, L109, k109, n109⟩, -, X109, ⟨Lc109, hQ109, l109, y109, z109⟩, st109⟩ := Jvm.LawKit.callS X108 hx (y := (⟨"org/axiswarp/xml/XmlCharactersIsNcNameStartCharPinLaw", "inGap", "(I)Z"⟩ : MethodName)) hown (mvT hZ (hw _ (List.mem_of_getElem? (i := 17) rfl))) (mvT hZ (hw _ (List.mem_of_getElem? (i := 18) rfl))) (mvT hZ (hw _ (List.mem_of_getElem? (i := 19) rfl))) (mvT hZ (hw _ (List.mem_of_getElem? (i := 20) rfl))) (by decide) (backOf (W := 1) (rm2 l Z a0 hw [] qq h101 n0 Zs) hZ (hw _ (List.mem_of_getElem? (i := 20) rfl)) (hw _ (List.mem_of_getElem? (i := 19) rfl)) (by decide) (by decide)) (g := (mkF m 312 #[.val (.int p1), .val (.int p2), .val (.int p3), .val (.int p4), .val (.ref b1), .val (.int pp), .val (.int qq), .val (.int (1 : Int32)), .val (.int (1 : Int32)), .unset] [(.int qq), (.int (own_nc qq))])) rfl (by rw [hml]; rfl) (argsL := [(.int qq)]) (rest := [(.int (own_nc qq))]) (lenOf pd_0 rfl) rfl (by show 2 * 0 + _ ≤ _; exact Nat.le_of_eq rfl) (hb hby at_312) (fun _ _ => ⟨rfl, e108, (by decide : 1 + 0 ≤ _), (by decide : 34 + 0 ≤ _)⟩)
      dsimp only [Pt.U, Pt.locs, Pt.cells, Pt.slots] at X109 l109 y109 z109 st109 hQ109
      subst l109 y109 z109
      obtain ⟨rfl, N109q, e109⟩ := hQ109
      have N := Fr.app N N109q
      refine OwnGo.fwd st109 ?_
      show OwnGo _ _ _ _ (T109.setTop (mkF m 315 #[.val (.int p1), .val (.int p2), .val (.int p3), .val (.int p4), .val (.ref b1), .val (.int pp), .val (.int qq), .val (.int (1 : Int32)), .val (.int (1 : Int32)), .unset] [(.int (own_gp qq)), (.int (own_nc qq))]))
      have K333 : OwnGo p.tables e below (OwnEnd s (Q0 Z p1 p2 p3 p4 h0 n0) room_1.cells room_1.slots) (T109.setTop (mkF m 333 #[.val (.int p1), .val (.int p2), .val (.int p3), .val (.int p4), .val (.ref b1), .val (.int pp), .val (.int qq), .val (.int (1 : Int32)), .val (.int (1 : Int32)), .val (.int (1 : Int32))] [])) := by
        refine OwnGo.fwd (fun tq' kq' => XS.iload X109.here hx rfl (hb hby at_333) rfl kq') ?_
        show OwnGo _ _ _ _ (T109.setTop (mkF m 335 #[.val (.int p1), .val (.int p2), .val (.int p3), .val (.int p4), .val (.ref b1), .val (.int pp), .val (.int qq), .val (.int (1 : Int32)), .val (.int (1 : Int32)), .val (.int (1 : Int32))] [(.int (1 : Int32))]))
        have hc335_110 : ¬ ((1 : Int) = (0 : Int)) := by decide
        refine OwnGo.fwd (fun tq' kq' => XS.ifNo X109.here hx rfl (hb hby at_335) rfl ((if0 _ _).trans (own_bneq (by decide) (by decide) hc335_110).1) kq') ?_
        show OwnGo _ _ _ _ (T109.setTop (mkF m 338 #[.val (.int p1), .val (.int p2), .val (.int p3), .val (.int p4), .val (.ref b1), .val (.int pp), .val (.int qq), .val (.int (1 : Int32)), .val (.int (1 : Int32)), .val (.int (1 : Int32))] []))
        refine OwnGo.fwd (fun tq' kq' => XS.iload X109.here hx rfl (hb hby at_338) rfl kq') ?_
        show OwnGo _ _ _ _ (T109.setTop (mkF m 340 #[.val (.int p1), .val (.int p2), .val (.int p3), .val (.int p4), .val (.ref b1), .val (.int pp), .val (.int qq), .val (.int (1 : Int32)), .val (.int (1 : Int32)), .val (.int (1 : Int32))] [(.int (1 : Int32))]))
        have hc340_111 : ¬ ((1 : Int) = (0 : Int)) := by decide
        refine OwnGo.fwd (fun tq' kq' => XS.ifNo X109.here hx rfl (hb hby at_340) rfl ((if0 _ _).trans (own_bneq (by decide) (by decide) hc340_111).1) kq') ?_
        show OwnGo _ _ _ _ (T109.setTop (mkF m 343 #[.val (.int p1), .val (.int p2), .val (.int p3), .val (.int p4), .val (.ref b1), .val (.int pp), .val (.int qq), .val (.int (1 : Int32)), .val (.int (1 : Int32)), .val (.int (1 : Int32))] []))
        refine OwnGo.fwd (fun tq' kq' => XS.iload X109.here hx rfl (hb hby at_343) rfl kq') ?_
        show OwnGo _ _ _ _ (T109.setTop (mkF m 345 #[.val (.int p1), .val (.int p2), .val (.int p3), .val (.int p4), .val (.ref b1), .val (.int pp), .val (.int qq), .val (.int (1 : Int32)), .val (.int (1 : Int32)), .val (.int (1 : Int32))] [(.int (1 : Int32))]))
        have hc345_112 : ¬ ((1 : Int) = (0 : Int)) := by decide
        refine OwnGo.fwd (fun tq' kq' => XS.ifNo X109.here hx rfl (hb hby at_345) rfl ((if0 _ _).trans (own_bneq (by decide) (by decide) hc345_112).1) kq') ?_
        show OwnGo _ _ _ _ (T109.setTop (mkF m 348 #[.val (.int p1), .val (.int p2), .val (.int p3), .val (.int p4), .val (.ref b1), .val (.int pp), .val (.int qq), .val (.int (1 : Int32)), .val (.int (1 : Int32)), .val (.int (1 : Int32))] []))
        refine OwnGo.fwd (fun tq' kq' => XS.iconst X109.here hx rfl (hb hby at_348) kq') ?_
        show OwnGo _ _ _ _ (T109.setTop (mkF m 349 #[.val (.int p1), .val (.int p2), .val (.int p3), .val (.int p4), .val (.ref b1), .val (.int pp), .val (.int qq), .val (.int (1 : Int32)), .val (.int (1 : Int32)), .val (.int (1 : Int32))] [(.int (1 : Int32))]))
        refine OwnGo.fwd (fun tq' kq' => XS.goto X109.here hx rfl (pc0 := 349) (pc' := 353) rfl (hb hby at_349) (by decide) (by decide) kq') ?_
        show OwnGo _ _ _ _ (T109.setTop (mkF m 353 #[.val (.int p1), .val (.int p2), .val (.int p3), .val (.int p4), .val (.ref b1), .val (.int pp), .val (.int qq), .val (.int (1 : Int32)), .val (.int (1 : Int32)), .val (.int (1 : Int32))] [(.int (1 : Int32))]))
        exact own_retZ X109 hlk hx Bd.returns (hb hby at_353) (by decide) (by decide) e109 ⟨rfl, N⟩
      by_cases hc315_113 : (own_gp qq).toInt = 0
      · refine OwnGo.fwd (fun tq' kq' => XS.ifNo X109.here hx rfl (hb hby at_315) rfl ((if0 _ _).trans (own_beq rfl (by decide) hc315_113).2) kq') ?_
        show OwnGo _ _ _ _ (T109.setTop (mkF m 318 #[.val (.int p1), .val (.int p2), .val (.int p3), .val (.int p4), .val (.ref b1), .val (.int pp), .val (.int qq), .val (.int (1 : Int32)), .val (.int (1 : Int32)), .unset] [(.int (own_nc qq))]))
        refine OwnGo.fwd (fun tq' kq' => XS.iconst X109.here hx rfl (hb hby at_318) kq') ?_
        show OwnGo _ _ _ _ (T109.setTop (mkF m 319 #[.val (.int p1), .val (.int p2), .val (.int p3), .val (.int p4), .val (.ref b1), .val (.int pp), .val (.int qq), .val (.int (1 : Int32)), .val (.int (1 : Int32)), .unset] [(.int (1 : Int32)), (.int (own_nc qq))]))
        refine OwnGo.fwd (fun tq' kq' => XS.goto X109.here hx rfl (pc0 := 319) (pc' := 323) rfl (hb hby at_319) (by decide) (by decide) kq') ?_
        show OwnGo _ _ _ _ (T109.setTop (mkF m 323 #[.val (.int p1), .val (.int p2), .val (.int p3), .val (.int p4), .val (.ref b1), .val (.int pp), .val (.int qq), .val (.int (1 : Int32)), .val (.int (1 : Int32)), .unset] [(.int (1 : Int32)), (.int (own_nc qq))]))
        have hc323_114 : (own_nc qq).toInt = 1 := by rw [own_gpn hc315_113]; decide
        refine OwnGo.fwd (fun tq' kq' => XS.icmpNo X109.here hx rfl (hb hby at_323) rfl (own_beq rfl (by decide) hc323_114).2 kq') ?_
        show OwnGo _ _ _ _ (T109.setTop (mkF m 326 #[.val (.int p1), .val (.int p2), .val (.int p3), .val (.int p4), .val (.ref b1), .val (.int pp), .val (.int qq), .val (.int (1 : Int32)), .val (.int (1 : Int32)), .unset] []))
        refine OwnGo.fwd (fun tq' kq' => XS.iconst X109.here hx rfl (hb hby at_326) kq') ?_
        show OwnGo _ _ _ _ (T109.setTop (mkF m 327 #[.val (.int p1), .val (.int p2), .val (.int p3), .val (.int p4), .val (.ref b1), .val (.int pp), .val (.int qq), .val (.int (1 : Int32)), .val (.int (1 : Int32)), .unset] [(.int (1 : Int32))]))
        refine OwnGo.fwd (fun tq' kq' => XS.goto X109.here hx rfl (pc0 := 327) (pc' := 331) rfl (hb hby at_327) (by decide) (by decide) kq') ?_
        show OwnGo _ _ _ _ (T109.setTop (mkF m 331 #[.val (.int p1), .val (.int p2), .val (.int p3), .val (.int p4), .val (.ref b1), .val (.int pp), .val (.int qq), .val (.int (1 : Int32)), .val (.int (1 : Int32)), .unset] [(.int (1 : Int32))]))
        refine OwnGo.fwd (fun tq' kq' => XS.istore X109.here hx rfl (hb hby at_331) rfl (l' := #[.val (.int p1), .val (.int p2), .val (.int p3), .val (.int p4), .val (.ref b1), .val (.int pp), .val (.int qq), .val (.int (1 : Int32)), .val (.int (1 : Int32)), .val (.int (1 : Int32))]) rfl kq') ?_
        show OwnGo _ _ _ _ (T109.setTop (mkF m 333 #[.val (.int p1), .val (.int p2), .val (.int p3), .val (.int p4), .val (.ref b1), .val (.int pp), .val (.int qq), .val (.int (1 : Int32)), .val (.int (1 : Int32)), .val (.int (1 : Int32))] []))
        exact K333
      · refine OwnGo.fwd (fun tq' kq' => XS.ifYes X109.here hx rfl (pc0 := 315) (pc' := 322) rfl (hb hby at_315) rfl ((if0 _ _).trans (own_bneq rfl (by decide) hc315_113).2) (by decide) (by decide) kq') ?_
        show OwnGo _ _ _ _ (T109.setTop (mkF m 322 #[.val (.int p1), .val (.int p2), .val (.int p3), .val (.int p4), .val (.ref b1), .val (.int pp), .val (.int qq), .val (.int (1 : Int32)), .val (.int (1 : Int32)), .unset] [(.int (own_nc qq))]))
        refine OwnGo.fwd (fun tq' kq' => XS.iconst X109.here hx rfl (hb hby at_322) kq') ?_
        show OwnGo _ _ _ _ (T109.setTop (mkF m 323 #[.val (.int p1), .val (.int p2), .val (.int p3), .val (.int p4), .val (.ref b1), .val (.int pp), .val (.int qq), .val (.int (1 : Int32)), .val (.int (1 : Int32)), .unset] [(.int (0 : Int32)), (.int (own_nc qq))]))
        have hc323_115 : (own_nc qq).toInt = 0 := by rw [own_gpp hc315_113]; decide
        refine OwnGo.fwd (fun tq' kq' => XS.icmpNo X109.here hx rfl (hb hby at_323) rfl (own_beq rfl (by decide) hc323_115).2 kq') ?_
        show OwnGo _ _ _ _ (T109.setTop (mkF m 326 #[.val (.int p1), .val (.int p2), .val (.int p3), .val (.int p4), .val (.ref b1), .val (.int pp), .val (.int qq), .val (.int (1 : Int32)), .val (.int (1 : Int32)), .unset] []))
        refine OwnGo.fwd (fun tq' kq' => XS.iconst X109.here hx rfl (hb hby at_326) kq') ?_
        show OwnGo _ _ _ _ (T109.setTop (mkF m 327 #[.val (.int p1), .val (.int p2), .val (.int p3), .val (.int p4), .val (.ref b1), .val (.int pp), .val (.int qq), .val (.int (1 : Int32)), .val (.int (1 : Int32)), .unset] [(.int (1 : Int32))]))
        refine OwnGo.fwd (fun tq' kq' => XS.goto X109.here hx rfl (pc0 := 327) (pc' := 331) rfl (hb hby at_327) (by decide) (by decide) kq') ?_
        show OwnGo _ _ _ _ (T109.setTop (mkF m 331 #[.val (.int p1), .val (.int p2), .val (.int p3), .val (.int p4), .val (.ref b1), .val (.int pp), .val (.int qq), .val (.int (1 : Int32)), .val (.int (1 : Int32)), .unset] [(.int (1 : Int32))]))
        refine OwnGo.fwd (fun tq' kq' => XS.istore X109.here hx rfl (hb hby at_331) rfl (l' := #[.val (.int p1), .val (.int p2), .val (.int p3), .val (.int p4), .val (.ref b1), .val (.int pp), .val (.int qq), .val (.int (1 : Int32)), .val (.int (1 : Int32)), .val (.int (1 : Int32))]) rfl kq') ?_
        show OwnGo _ _ _ _ (T109.setTop (mkF m 333 #[.val (.int p1), .val (.int p2), .val (.int p3), .val (.int p4), .val (.ref b1), .val (.int pp), .val (.int qq), .val (.int (1 : Int32)), .val (.int (1 : Int32)), .val (.int (1 : Int32))] []))
        exact K333
    by_cases hc287_116 : (own_gp pp).toInt = 0
    · refine OwnGo.fwd (fun tq' kq' => XS.ifNo X107.here hx rfl (hb hby at_287) rfl ((if0 _ _).trans (own_beq rfl (by decide) hc287_116).2) kq') ?_
      show OwnGo _ _ _ _ (T107.setTop (mkF m 290 #[.val (.int p1), .val (.int p2), .val (.int p3), .val (.int p4), .val (.ref b1), .val (.int pp), .val (.int qq), .val (.int (1 : Int32)), .unset, .unset] [(.int (own_nc pp))]))
      refine OwnGo.fwd (fun tq' kq' => XS.iconst X107.here hx rfl (hb hby at_290) kq') ?_
      show OwnGo _ _ _ _ (T107.setTop (mkF m 291 #[.val (.int p1), .val (.int p2), .val (.int p3), .val (.int p4), .val (.ref b1), .val (.int pp), .val (.int qq), .val (.int (1 : Int32)), .unset, .unset] [(.int (1 : Int32)), (.int (own_nc pp))]))
      refine OwnGo.fwd (fun tq' kq' => XS.goto X107.here hx rfl (pc0 := 291) (pc' := 295) rfl (hb hby at_291) (by decide) (by decide) kq') ?_
      show OwnGo _ _ _ _ (T107.setTop (mkF m 295 #[.val (.int p1), .val (.int p2), .val (.int p3), .val (.int p4), .val (.ref b1), .val (.int pp), .val (.int qq), .val (.int (1 : Int32)), .unset, .unset] [(.int (1 : Int32)), (.int (own_nc pp))]))
      have hc295_117 : (own_nc pp).toInt = 1 := by rw [own_gpn hc287_116]; decide
      refine OwnGo.fwd (fun tq' kq' => XS.icmpNo X107.here hx rfl (hb hby at_295) rfl (own_beq rfl (by decide) hc295_117).2 kq') ?_
      show OwnGo _ _ _ _ (T107.setTop (mkF m 298 #[.val (.int p1), .val (.int p2), .val (.int p3), .val (.int p4), .val (.ref b1), .val (.int pp), .val (.int qq), .val (.int (1 : Int32)), .unset, .unset] []))
      refine OwnGo.fwd (fun tq' kq' => XS.iconst X107.here hx rfl (hb hby at_298) kq') ?_
      show OwnGo _ _ _ _ (T107.setTop (mkF m 299 #[.val (.int p1), .val (.int p2), .val (.int p3), .val (.int p4), .val (.ref b1), .val (.int pp), .val (.int qq), .val (.int (1 : Int32)), .unset, .unset] [(.int (1 : Int32))]))
      refine OwnGo.fwd (fun tq' kq' => XS.goto X107.here hx rfl (pc0 := 299) (pc' := 303) rfl (hb hby at_299) (by decide) (by decide) kq') ?_
      show OwnGo _ _ _ _ (T107.setTop (mkF m 303 #[.val (.int p1), .val (.int p2), .val (.int p3), .val (.int p4), .val (.ref b1), .val (.int pp), .val (.int qq), .val (.int (1 : Int32)), .unset, .unset] [(.int (1 : Int32))]))
      refine OwnGo.fwd (fun tq' kq' => XS.istore X107.here hx rfl (hb hby at_303) rfl (l' := #[.val (.int p1), .val (.int p2), .val (.int p3), .val (.int p4), .val (.ref b1), .val (.int pp), .val (.int qq), .val (.int (1 : Int32)), .val (.int (1 : Int32)), .unset]) rfl kq') ?_
      show OwnGo _ _ _ _ (T107.setTop (mkF m 305 #[.val (.int p1), .val (.int p2), .val (.int p3), .val (.int p4), .val (.ref b1), .val (.int pp), .val (.int qq), .val (.int (1 : Int32)), .val (.int (1 : Int32)), .unset] []))
      exact K305
    · refine OwnGo.fwd (fun tq' kq' => XS.ifYes X107.here hx rfl (pc0 := 287) (pc' := 294) rfl (hb hby at_287) rfl ((if0 _ _).trans (own_bneq rfl (by decide) hc287_116).2) (by decide) (by decide) kq') ?_
      show OwnGo _ _ _ _ (T107.setTop (mkF m 294 #[.val (.int p1), .val (.int p2), .val (.int p3), .val (.int p4), .val (.ref b1), .val (.int pp), .val (.int qq), .val (.int (1 : Int32)), .unset, .unset] [(.int (own_nc pp))]))
      refine OwnGo.fwd (fun tq' kq' => XS.iconst X107.here hx rfl (hb hby at_294) kq') ?_
      show OwnGo _ _ _ _ (T107.setTop (mkF m 295 #[.val (.int p1), .val (.int p2), .val (.int p3), .val (.int p4), .val (.ref b1), .val (.int pp), .val (.int qq), .val (.int (1 : Int32)), .unset, .unset] [(.int (0 : Int32)), (.int (own_nc pp))]))
      have hc295_118 : (own_nc pp).toInt = 0 := by rw [own_gpp hc287_116]; decide
      refine OwnGo.fwd (fun tq' kq' => XS.icmpNo X107.here hx rfl (hb hby at_295) rfl (own_beq rfl (by decide) hc295_118).2 kq') ?_
      show OwnGo _ _ _ _ (T107.setTop (mkF m 298 #[.val (.int p1), .val (.int p2), .val (.int p3), .val (.int p4), .val (.ref b1), .val (.int pp), .val (.int qq), .val (.int (1 : Int32)), .unset, .unset] []))
      refine OwnGo.fwd (fun tq' kq' => XS.iconst X107.here hx rfl (hb hby at_298) kq') ?_
      show OwnGo _ _ _ _ (T107.setTop (mkF m 299 #[.val (.int p1), .val (.int p2), .val (.int p3), .val (.int p4), .val (.ref b1), .val (.int pp), .val (.int qq), .val (.int (1 : Int32)), .unset, .unset] [(.int (1 : Int32))]))
      refine OwnGo.fwd (fun tq' kq' => XS.goto X107.here hx rfl (pc0 := 299) (pc' := 303) rfl (hb hby at_299) (by decide) (by decide) kq') ?_
      show OwnGo _ _ _ _ (T107.setTop (mkF m 303 #[.val (.int p1), .val (.int p2), .val (.int p3), .val (.int p4), .val (.ref b1), .val (.int pp), .val (.int qq), .val (.int (1 : Int32)), .unset, .unset] [(.int (1 : Int32))]))
      refine OwnGo.fwd (fun tq' kq' => XS.istore X107.here hx rfl (hb hby at_303) rfl (l' := #[.val (.int p1), .val (.int p2), .val (.int p3), .val (.int p4), .val (.ref b1), .val (.int pp), .val (.int qq), .val (.int (1 : Int32)), .val (.int (1 : Int32)), .unset]) rfl kq') ?_
      show OwnGo _ _ _ _ (T107.setTop (mkF m 305 #[.val (.int p1), .val (.int p2), .val (.int p3), .val (.int p4), .val (.ref b1), .val (.int pp), .val (.int qq), .val (.int (1 : Int32)), .val (.int (1 : Int32)), .unset] []))
      exact K305
  by_cases hc259_119 : (own_gp p1).toInt = 0
  · refine OwnGo.fwd (fun tq' kq' => XS.ifNo X105.here hx rfl (hb hby at_259) rfl ((if0 _ _).trans (own_beq rfl (by decide) hc259_119).2) kq') ?_
    show OwnGo _ _ _ _ (T105.setTop (mkF m 262 #[.val (.int p1), .val (.int p2), .val (.int p3), .val (.int p4), .val (.ref b1), .val (.int pp), .val (.int qq), .unset, .unset, .unset] [(.int (own_nc p1))]))
    refine OwnGo.fwd (fun tq' kq' => XS.iconst X105.here hx rfl (hb hby at_262) kq') ?_
    show OwnGo _ _ _ _ (T105.setTop (mkF m 263 #[.val (.int p1), .val (.int p2), .val (.int p3), .val (.int p4), .val (.ref b1), .val (.int pp), .val (.int qq), .unset, .unset, .unset] [(.int (1 : Int32)), (.int (own_nc p1))]))
    refine OwnGo.fwd (fun tq' kq' => XS.goto X105.here hx rfl (pc0 := 263) (pc' := 267) rfl (hb hby at_263) (by decide) (by decide) kq') ?_
    show OwnGo _ _ _ _ (T105.setTop (mkF m 267 #[.val (.int p1), .val (.int p2), .val (.int p3), .val (.int p4), .val (.ref b1), .val (.int pp), .val (.int qq), .unset, .unset, .unset] [(.int (1 : Int32)), (.int (own_nc p1))]))
    have hc267_120 : (own_nc p1).toInt = 1 := by rw [own_gpn hc259_119]; decide
    refine OwnGo.fwd (fun tq' kq' => XS.icmpNo X105.here hx rfl (hb hby at_267) rfl (own_beq rfl (by decide) hc267_120).2 kq') ?_
    show OwnGo _ _ _ _ (T105.setTop (mkF m 270 #[.val (.int p1), .val (.int p2), .val (.int p3), .val (.int p4), .val (.ref b1), .val (.int pp), .val (.int qq), .unset, .unset, .unset] []))
    refine OwnGo.fwd (fun tq' kq' => XS.iconst X105.here hx rfl (hb hby at_270) kq') ?_
    show OwnGo _ _ _ _ (T105.setTop (mkF m 271 #[.val (.int p1), .val (.int p2), .val (.int p3), .val (.int p4), .val (.ref b1), .val (.int pp), .val (.int qq), .unset, .unset, .unset] [(.int (1 : Int32))]))
    refine OwnGo.fwd (fun tq' kq' => XS.goto X105.here hx rfl (pc0 := 271) (pc' := 275) rfl (hb hby at_271) (by decide) (by decide) kq') ?_
    show OwnGo _ _ _ _ (T105.setTop (mkF m 275 #[.val (.int p1), .val (.int p2), .val (.int p3), .val (.int p4), .val (.ref b1), .val (.int pp), .val (.int qq), .unset, .unset, .unset] [(.int (1 : Int32))]))
    refine OwnGo.fwd (fun tq' kq' => XS.istore X105.here hx rfl (hb hby at_275) rfl (l' := #[.val (.int p1), .val (.int p2), .val (.int p3), .val (.int p4), .val (.ref b1), .val (.int pp), .val (.int qq), .val (.int (1 : Int32)), .unset, .unset]) rfl kq') ?_
    show OwnGo _ _ _ _ (T105.setTop (mkF m 277 #[.val (.int p1), .val (.int p2), .val (.int p3), .val (.int p4), .val (.ref b1), .val (.int pp), .val (.int qq), .val (.int (1 : Int32)), .unset, .unset] []))
    exact K277
  · refine OwnGo.fwd (fun tq' kq' => XS.ifYes X105.here hx rfl (pc0 := 259) (pc' := 266) rfl (hb hby at_259) rfl ((if0 _ _).trans (own_bneq rfl (by decide) hc259_119).2) (by decide) (by decide) kq') ?_
    show OwnGo _ _ _ _ (T105.setTop (mkF m 266 #[.val (.int p1), .val (.int p2), .val (.int p3), .val (.int p4), .val (.ref b1), .val (.int pp), .val (.int qq), .unset, .unset, .unset] [(.int (own_nc p1))]))
    refine OwnGo.fwd (fun tq' kq' => XS.iconst X105.here hx rfl (hb hby at_266) kq') ?_
    show OwnGo _ _ _ _ (T105.setTop (mkF m 267 #[.val (.int p1), .val (.int p2), .val (.int p3), .val (.int p4), .val (.ref b1), .val (.int pp), .val (.int qq), .unset, .unset, .unset] [(.int (0 : Int32)), (.int (own_nc p1))]))
    have hc267_121 : (own_nc p1).toInt = 0 := by rw [own_gpp hc259_119]; decide
    refine OwnGo.fwd (fun tq' kq' => XS.icmpNo X105.here hx rfl (hb hby at_267) rfl (own_beq rfl (by decide) hc267_121).2 kq') ?_
    show OwnGo _ _ _ _ (T105.setTop (mkF m 270 #[.val (.int p1), .val (.int p2), .val (.int p3), .val (.int p4), .val (.ref b1), .val (.int pp), .val (.int qq), .unset, .unset, .unset] []))
    refine OwnGo.fwd (fun tq' kq' => XS.iconst X105.here hx rfl (hb hby at_270) kq') ?_
    show OwnGo _ _ _ _ (T105.setTop (mkF m 271 #[.val (.int p1), .val (.int p2), .val (.int p3), .val (.int p4), .val (.ref b1), .val (.int pp), .val (.int qq), .unset, .unset, .unset] [(.int (1 : Int32))]))
    refine OwnGo.fwd (fun tq' kq' => XS.goto X105.here hx rfl (pc0 := 271) (pc' := 275) rfl (hb hby at_271) (by decide) (by decide) kq') ?_
    show OwnGo _ _ _ _ (T105.setTop (mkF m 275 #[.val (.int p1), .val (.int p2), .val (.int p3), .val (.int p4), .val (.ref b1), .val (.int pp), .val (.int qq), .unset, .unset, .unset] [(.int (1 : Int32))]))
    refine OwnGo.fwd (fun tq' kq' => XS.istore X105.here hx rfl (hb hby at_275) rfl (l' := #[.val (.int p1), .val (.int p2), .val (.int p3), .val (.int p4), .val (.ref b1), .val (.int pp), .val (.int qq), .val (.int (1 : Int32)), .unset, .unset]) rfl kq') ?_
    show OwnGo _ _ _ _ (T105.setTop (mkF m 277 #[.val (.int p1), .val (.int p2), .val (.int p3), .val (.int p4), .val (.ref b1), .val (.int pp), .val (.int qq), .val (.int (1 : Int32)), .unset, .unset] []))
    exact K277
set_option maxRecDepth 65536 in
set_option maxHeartbeats 40000000 in
theorem comes_1 {Post : Tables → Env → Array Value → State → Outcome → State → Prop} (hpost : ∀ tb e args s v u, (limb_1_1.after args s (.returned v) u = true ∧ limb_1_2.after args s (.returned v) u = true ∧ True) → FrameEnd s (.returned v) u (Jvm.fieldLocs frame_1_writes args s ++ Jvm.arrayLocs frame_1_arrays args s ++ Jvm.staticLocs frame_1_statics s) 16 192 → Post tb e args s (.returned v) u) :
    ArmFor flags0 classFile x code maxLocals ret World_1 tables_1 room_1 Calls_1 rest_1 Pre_1 Post := by
  intro l hfl _ _ p e ha hc hk s m args below hf hA hF happ hP
  obtain ⟨hcalls, hrest, hpre⟩ := hP
  obtain ⟨-, -, -, hnamed, -, -, -, hat⟩ := (Spec.applies_iff hf).mp happ
  obtain ⟨hg, hn⟩ := and_e (Cond.before_iff.mp (show (Jvm.Cond.and given_1 narrow_1).before args s = true from hpre))
  obtain ⟨gc, gr0⟩ := and_e hg
  obtain ⟨ga0, gr1⟩ := and_e gr0
  obtain ⟨ga1, gr2⟩ := and_e gr1
  obtain ⟨ga2, gr3⟩ := and_e gr2
  obtain ⟨w0, w1, w2, w3, rfl⟩ : ∃ w0 w1 w2 w3 : Value, args = #[w0, w1, w2, w3] := by
    have hs : args.size = 4 := by simpa [Cond.value, given_1] using gc
    obtain ⟨L⟩ := args
    match L, hs with
    | [w0, w1, w2, w3], _ => exact ⟨w0, w1, w2, w3, rfl⟩
  have hw := fun d (hd : d ∈ tables_1) => atoms_spec (ws := Jvm.Cond.code x code maxLocals ret :: tables_1) hat d (List.mem_cons_of_mem _ hd)
  have hfit : Fit s := fun {y c} hc i hi => by
    obtain ⟨ha, rfl⟩ := Array.getElem?_eq_some_iff.mp hc
    have q := List.all_eq_true.mp ((Array.all_eq_true_iff_forall_mem.mp hF) _ (Array.getElem_mem ha)) i (List.mem_range.mpr hi)
    simpa [Array.getElem?_eq_getElem hi] using q
  obtain ⟨i0, ei0⟩ := is_v ga0
  obtain rfl : w0 = (.int i0) := Option.some.inj ei0
  obtain ⟨i1, ei1⟩ := is_v ga1
  obtain rfl : w1 = (.int i1) := Option.some.inj ei1
  obtain ⟨i2, ei2⟩ := is_v ga2
  obtain rfl : w2 = (.int i2) := Option.some.inj ei2
  obtain ⟨i3, ei3⟩ := is_v gr3
  obtain rfl : w3 = (.int i3) := Option.some.inj ei3
  obtain ⟨n, o, h1, h2, h3, _, L, rfl, ⟨rfl, N⟩, hq⟩ := rm0 l s _ hw tables_1 i0 i1 i2 i3 s.heap s.heap.size (Nat.le_refl _) p e ha hc hk s m _ below hf ((Spec.applies_iff_loose hf).mp happ).1 ⟨rfl, State.Warmed39.refl s, rfl⟩ trivial
  refine ⟨n, _, h1, h2, h3, hpost _ _ _ _ _ _ ⟨Cond.after_iff.mpr rfl, Cond.after_iff.mpr (eq_i res_at (Term.int_eval (1)) rfl), trivial⟩ ⟨hq.1, hq.2.1, (hq.2.2.sift fun y hy => Or.inr (N y hy)).mono (by decide) (by decide)⟩⟩
theorem main_1_1 : Claimed_1_1 := comes_1 fun _ _ _ _ _ _ h hF => ⟨h.1, hF⟩
theorem main_1_2 : Claimed_1_2 := comes_1 fun _ _ _ _ _ _ h hF => ⟨h.2.1, hF⟩
end Jvm.Pilot.@@N@@
namespace Jvm.Pilot.@@N@@
open Jvm Jvm.ClassFile Sem Op Lib Jvm.Free Jvm.Stand Jvm.Pilot.@@N@@.Jvm.D
/-! MADE BY PROGRAM (witnessworld.py) out of the Statement's table words and the real class files: 9 classes; the members and pool entries that the words name. The judged class is class 1, her method 1. -/
namespace start1
open Jvm.ClassFile
def u (s : String) : CpInfo := .utf8 (stringToUtf16 s)
/-- a pool by its gaps: so many unusable entries, then the entry; so many at the end -/
def gap : Nat → List CpInfo → List CpInfo
  | 0, r => r
  | n + 1, r => .unusable :: gap n r
def poolList (es : List (Nat × CpInfo)) (last : Nat) : List CpInfo := es.foldr (fun e r => gap e.1 (e.2 :: r)) (gap last [])
def pool (es : List (Nat × CpInfo)) (last : Nat) : Array CpInfo := ⟨poolList es last⟩
def fileOf (pool : Array CpInfo) (this : Nat) (attrs : Array Attribute := #[]) (ms : Array MethodInfo := #[]) (fl : Nat := 33) (sup : Nat := 0) (ifs : Array Nat := #[]) (fds : Array FieldInfo := #[]) : ClassFile where
  minorVersion := 0
  majorVersion := 65
  constantPool := pool
  accessFlags := fl
  thisClass := this
  superClass := sup
  interfaces := ifs
  fields := fds
  methods := ms
  attributes := attrs
def plain (name : String) (sup : Option ClassId) : Class where
  name := name
  kind := .ordinary
  loader := none
  accessFlags := 33
  super := sup
  interfaces := #[]
  cf := none
  fields := #[]
  methods := #[]
  instanceTypes := #[]
  staticTypes := #[]
  resolved := #[]
  callSites := []
  init := .initialized
  statics := none
  mirror := none

def pool0 : Array CpInfo := pool [(5, u "<init>"), (0, u "()V"), (1, .class_ 10), (1, u "java/lang/Object")] 113

def k0m0 : Method := { name := "<init>", desc := "()V", sig := { parameters := [], returnType := none }, accessFlags := 1, code := none }
/-- java/lang/Object -/
def k0 : Class := { plain "java/lang/Object" none with
  accessFlags := 33
  interfaces := #[]
  cf := some (fileOf pool0 8 #[] #[{ accessFlags := 1, nameIndex := 5, descriptorIndex := 6, attributes := #[] }] 33 0 #[] #[])
  fields := #[]
  methods := #[k0m0]
  instanceTypes := #[]
  staticTypes := #[]
  resolved := Array.replicate 124 none
  statics := none }

def pool1 : Array CpInfo := pool [(2, .class_ 4), (1, u "java/lang/Object"), (0, u "<init>"), (0, u "()V"), (0, .integer 55295), (0, .integer 63744), (0, .integer 64975), (0, .integer 65008), (0, .integer 65533), (0, .integer 65536), (0, .integer 983039), (0, .integer 2147483647), (0, .integer 131071), (0, .methodref 17 18), (0, .class_ 19), (0, .nameAndType 20 21), (0, u "org/axiswarp/xml/XmlCharacters"), (0, u "isNcNameStartChar"), (0, u "(I)Z"), (0, .methodref 23 24), (0, .class_ 25), (0, .nameAndType 26 21), (0, u "org/axiswarp/xml/XmlCharactersIsNcNameStartCharPinLaw"), (0, u "inGap"), (0, .integer 55296), (0, .integer 63743), (0, .integer 64976), (0, .integer 65007), (0, .integer 65534), (0, .integer 65535), (2, u "law"), (0, u "(IIII)Z")] 5

def k1m0 : Method := { name := "<init>", desc := "()V", sig := { parameters := [], returnType := none }, accessFlags := 2, code := none }
def k1c1 : Code := { maxStack := 4, maxLocals := 10, code := code, exceptionTable := #[], attributes := #[] }
def k1m1 : Method := { name := "law", desc := "(IIII)Z", sig := { parameters := [.int, .int, .int, .int], returnType := some .boolean }, accessFlags := 9, code := some k1c1 }
def k1c2 : Code := { maxStack := 2, maxLocals := 1, code := method_3_code, exceptionTable := #[], attributes := #[] }
def k1m2 : Method := { name := "inGap", desc := "(I)Z", sig := { parameters := [.int], returnType := some .boolean }, accessFlags := 10, code := some k1c2 }
/-- org/axiswarp/xml/XmlCharactersIsNcNameStartCharPinLaw -/
def k1 : Class := { plain "org/axiswarp/xml/XmlCharactersIsNcNameStartCharPinLaw" (some 0) with
  accessFlags := 49
  interfaces := #[]
  cf := some (fileOf pool1 23 #[] #[{ accessFlags := 2, nameIndex := 5, descriptorIndex := 6, attributes := #[] }, { accessFlags := 9, nameIndex := 35, descriptorIndex := 36, attributes := #[] }, { accessFlags := 10, nameIndex := 26, descriptorIndex := 21, attributes := #[] }] 49 2 #[] #[])
  fields := #[]
  methods := #[k1m0, k1m1, k1m2]
  instanceTypes := #[]
  staticTypes := #[]
  resolved := Array.replicate 42 none
  statics := none }

def pool2 : Array CpInfo := pool [(2, .class_ 4), (1, u "java/lang/Object"), (0, u "<init>"), (0, u "()V"), (11, .class_ 20), (1, u "org/axiswarp/xml/XmlCharacters"), (1, u "(I)Z"), (0, .integer 55295), (0, .integer 63744), (0, .integer 64975), (0, .integer 65008), (0, .integer 65533), (0, .integer 65536), (0, .integer 983039), (2, u "isNcNameStartChar")] 49

def k2m0 : Method := { name := "<init>", desc := "()V", sig := { parameters := [], returnType := none }, accessFlags := 2, code := none }
def k2c1 : Code := { maxStack := 2, maxLocals := 1, code := prog_41_method_4_code, exceptionTable := #[], attributes := #[] }
def k2m1 : Method := { name := "isNcNameStartChar", desc := "(I)Z", sig := { parameters := [.int], returnType := some .boolean }, accessFlags := 9, code := some k2c1 }
/-- org/axiswarp/xml/XmlCharacters -/
def k2 : Class := { plain "org/axiswarp/xml/XmlCharacters" (some 0) with
  accessFlags := 49
  interfaces := #[]
  cf := some (fileOf pool2 18 #[] #[{ accessFlags := 2, nameIndex := 5, descriptorIndex := 6, attributes := #[] }, { accessFlags := 9, nameIndex := 32, descriptorIndex := 22, attributes := #[] }] 49 2 #[] #[])
  fields := #[]
  methods := #[k2m0, k2m1]
  instanceTypes := #[]
  staticTypes := #[]
  resolved := Array.replicate 82 none
  statics := none }

def pool3 : Array CpInfo := pool [(1, u "java/lang/Cloneable"), (0, .class_ 1), (0, u "java/lang/Object"), (0, .class_ 3)] 3

/-- java/lang/Cloneable -/
def k3 : Class := { plain "java/lang/Cloneable" (some 0) with
  accessFlags := 1537
  interfaces := #[]
  cf := some (fileOf pool3 2 #[] #[] 1537 4 #[] #[])
  fields := #[]
  methods := #[]
  instanceTypes := #[]
  staticTypes := #[]
  resolved := Array.replicate 8 none
  statics := none }

def pool4 : Array CpInfo := pool [(1, u "java/io/Serializable"), (0, .class_ 1), (0, u "java/lang/Object"), (0, .class_ 3)] 3

/-- java/io/Serializable -/
def k4 : Class := { plain "java/io/Serializable" (some 0) with
  accessFlags := 1537
  interfaces := #[]
  cf := some (fileOf pool4 2 #[] #[] 1537 4 #[] #[])
  fields := #[]
  methods := #[]
  instanceTypes := #[]
  staticTypes := #[]
  resolved := Array.replicate 8 none
  statics := none }

/-- the primitive byte -/
def k5 : Class := { plain "byte" none with kind := .primitive 'B', accessFlags := 0x411 }
/-- [B -/
def k6 : Class := { plain "[B" (some 0) with kind := .array 5 .byte, interfaces := #[3, 4], accessFlags := 1041 }

/-- the primitive int -/
def k7 : Class := { plain "int" none with kind := .primitive 'I', accessFlags := 0x411 }
/-- [I -/
def k8 : Class := { plain "[I" (some 0) with kind := .array 7 .int, interfaces := #[3, 4], accessFlags := 1041 }

def heap : Heap := #[]
def classes : Array Class := #[k0, k1, k2, k3, k4, k5, k6, k7, k8]
def interned : List (Array UInt16 × Addr) := []
def slotsUsed : Nat := 0
def theMethod : MethodId := ⟨1, 1⟩
def args0 : Array Value := #[.int 5, .int 7, .int 9, .int 11]
def aboutOver (below : List Frame) : State where
  vm := { classes := classes, interned := interned.toArray }
  heap := heap
  slotsUsed := slotsUsed
  threads := #[{ frames := .invoking theMethod args0 :: below }]
def below0 : List Frame := [.native { method := ⟨0, 0⟩, args := #[] }]
def about1 : State := aboutOver below0
def p0 : Program := .bare "" "" ""
def e0 : Env := launch0.env 0 0 0
theorem w_frames : about1.frames = Frame.invoking theMethod args0 :: below0 := rfl
set_option maxRecDepth 65536 in
theorem w_args : argsFit about1.vm theMethod args0 = true := by decide +kernel
set_option maxRecDepth 65536 in
theorem w_heap : heapFits about1 = true := by decide +kernel
set_option maxRecDepth 65536 in
theorem w_runnable : about1.curStatus? = some .runnable := by decide +kernel
set_option maxRecDepth 65536 in
theorem w_alone : about1.alone = true := by decide +kernel
set_option maxRecDepth 65536 in
theorem w_named : about1.methodNamed? x = some theMethod := by decide +kernel
set_option maxRecDepth 65536 in
theorem w_hears : about1.hears theMethod below0 = true := by decide +kernel
set_option maxRecDepth 65536 in
theorem w_ripe : about1.ripe theMethod args0 below0 = true := by decide +kernel
theorem w_running : about1.status = .running := rfl
set_option maxRecDepth 65536 in
theorem w_room : about1.hasRoom e0.platform room_1 = true :=
  launch0.hasRoom_least _ room_1 (by decide +kernel) (by decide +kernel) (by decide +kernel) (by decide +kernel) (by decide +kernel) (by decide +kernel)
theorem allAtoms_all (ts : List Jvm.Cond) (a : Array Jvm.Value) (st : Jvm.State) : (allAtoms ts).before a st = ts.all (fun c => c.before a st) := by
  induction ts with
  | nil => rfl
  | cons c t ih =>
    show (Jvm.Cond.and c (allAtoms t)).before a st = _
    rw [Jvm.Cond.before_and, ih, List.all_cons]
def words1 : List Jvm.Cond := Jvm.Cond.code x code maxLocals ret :: tables_1
/-- a 'code' word, met by the world's own term for the bytes: nothing is compared byte by byte -/
theorem code_word {y : MethodName} {bytes : ByteArray} {mx : Nat} {rt : Option FieldType} {a : Array Value} {s : State} {m : MethodId} {meth : Method} {c : Code} (h1 : s.methodNamed? y = some m) (h2 : s.vm.method? m = some meth) (h3 : meth.code = some c) (h4 : c.code = bytes)
    (h5 : (c.maxLocals == mx && c.exceptionTable.isEmpty && decide (c.maxStack ≤ mostOperands) && decide (meth.sig.returnType = rt) && !meth.locks && decide (parseMethodDescriptor y.desc = some meth.sig)) = true) : (Jvm.Cond.code y bytes mx rt).before a s = true := by
  simp only [Bool.and_eq_true, beq_iff_eq, Bool.not_eq_true', decide_eq_true_eq] at h5
  obtain ⟨⟨⟨⟨⟨g1, g2⟩, g3⟩, g4⟩, g5⟩, g6⟩ := h5
  simp [Cond.before, Cond.holds, Cond.value, h1, h2, h3, h4, g1, g2, g3, g4, g5, g6]
def isCode : Jvm.Cond → Bool
  | .code _ _ _ _ => true
  | _ => false
theorem all_split {L : List Jvm.Cond} {P : Jvm.Cond → Bool} (h1 : L.all (fun c => isCode c || P c) = true) (h2 : ∀ c ∈ L.filter isCode, P c = true) : L.all P = true := by
  refine List.all_eq_true.mpr fun c hc => ?_
  have h := List.all_eq_true.mp h1 c hc
  rcases Bool.eq_false_or_eq_true (isCode c) with hi | hi
  · exact h2 c (List.mem_filter.mpr ⟨hc, hi⟩)
  · simpa [hi] using h
set_option maxRecDepth 65536 in
theorem w_c0 : (Jvm.Cond.code x code maxLocals ret).before args0 about1 = true := code_word (m := ⟨1, 1⟩) (meth := k1m1) (c := k1c1) (by decide +kernel) rfl rfl rfl (by decide +kernel)
set_option maxRecDepth 65536 in
theorem w_c1 : (Jvm.Cond.code ({ cls := "org/axiswarp/xml/XmlCharacters", name := "isNcNameStartChar", desc := "(I)Z" } : Jvm.MethodName) prog_41_method_4_code (1 : Nat) (Option.some Jvm.ClassFile.FieldType.boolean)).before args0 about1 = true := code_word (m := ⟨2, 1⟩) (meth := k2m1) (c := k2c1) (by decide +kernel) rfl rfl rfl (by decide +kernel)
set_option maxRecDepth 65536 in
theorem w_c2 : (Jvm.Cond.code ({ cls := "org/axiswarp/xml/XmlCharactersIsNcNameStartCharPinLaw", name := "inGap", desc := "(I)Z" } : Jvm.MethodName) method_3_code (1 : Nat) (Option.some Jvm.ClassFile.FieldType.boolean)).before args0 about1 = true := code_word (m := ⟨1, 2⟩) (meth := k1m2) (c := k1c2) (by decide +kernel) rfl rfl rfl (by decide +kernel)
def codes1 : List Jvm.Cond := [Jvm.Cond.code x code maxLocals ret, Jvm.Cond.code ({ cls := "org/axiswarp/xml/XmlCharacters", name := "isNcNameStartChar", desc := "(I)Z" } : Jvm.MethodName) prog_41_method_4_code (1 : Nat) (Option.some Jvm.ClassFile.FieldType.boolean), Jvm.Cond.code ({ cls := "org/axiswarp/xml/XmlCharactersIsNcNameStartCharPinLaw", name := "inGap", desc := "(I)Z" } : Jvm.MethodName) method_3_code (1 : Nat) (Option.some Jvm.ClassFile.FieldType.boolean)]
set_option maxRecDepth 65536 in
theorem codes_eq : words1.filter isCode = codes1 := rfl
theorem w_codes : ∀ c ∈ words1.filter isCode, c.before args0 about1 = true := by
  rw [codes_eq]
  intro c hc
  simp only [codes1, List.mem_cons, List.not_mem_nil, or_false] at hc
  rcases hc with rfl | rfl | rfl
  · exact w_c0
  · exact w_c1
  · exact w_c2
set_option maxRecDepth 65536 in
theorem w_t1 : (words1.take 24).all (fun c => isCode c || c.before args0 about1) = true := by decide +kernel
set_option maxRecDepth 65536 in
theorem w_t2 : (words1.drop 24).all (fun c => isCode c || c.before args0 about1) = true := by decide +kernel
theorem w_tables : (allAtoms (Jvm.Cond.code x code maxLocals ret :: tables_1)).before args0 about1 = true := by
  rw [allAtoms_all]
  show words1.all (fun c => c.before args0 about1) = true
  refine all_split ?_ w_codes
  rw [← List.take_append_drop 24 words1, List.all_append, w_t1, w_t2]
  rfl
set_option maxRecDepth 65536 in
theorem w_case : (Jvm.Cond.and given_1 narrow_1).before args0 about1 = true := by decide +kernel
theorem w_applies : (headSpec (Jvm.Cond.code x code maxLocals ret :: tables_1) room_1).applies x e0.platform about1 = true :=
  (Spec.applies_iff w_frames).mpr ⟨w_running, w_runnable, w_alone, w_named, w_hears, w_ripe, w_room, w_tables⟩
theorem atStart : AtStart classFile x code maxLocals ret World_1 tables_1 room_1 Calls_1 rest_1 Pre_1 launch0 p0 e0 about1 theMethod args0 below0 :=
  ⟨lists_1, trivial, launch0.admits_env _ _ _, launch0.least_env, fairChoices_fair.cas, fairChoices_fair.clock, w_frames, w_args, w_heap, w_applies, trivial, trivial, w_case⟩
end start1
theorem witness_1 : WitnessClaimed_1 := ⟨start1.p0, start1.e0, start1.about1, start1.theMethod, start1.args0, start1.below0, start1.atStart⟩
end Jvm.Pilot.@@N@@
