import JvmDerived
import JvmDerived.Pilot.@@N@@Statement
import JvmDerived.Pilot.@@N@@Code
set_option linter.unusedVariables false
set_option linter.unusedSimpArgs false
namespace Jvm.RoadKit
open Sem ClassFile Op Lib Jvm.Stand Jvm.Free Jvm.LawKit
/-- own: from A the walk comes to its end, and there R holds -/
def OwnGo (tb : Tables) (e : Env) (below : List Frame) (R : State → Outcome → Prop) (A : State) : Prop := ∃ s₂ o, Steps tb e below A s₂ ∧ s₂.status = .running ∧ Ended s₂ below o ∧ R s₂ o
theorem OwnGo.fwd {tb : Tables} {e : Env} {below : List Frame} {R : State → Outcome → Prop} {A B : State} (h : ∀ t, Steps tb e below B t → Steps tb e below A t) (k : OwnGo tb e below R B) : OwnGo tb e below R A := by
  obtain ⟨s, o, h1, h2⟩ := k
  exact ⟨s, o, h s h1, h2⟩
theorem OwnGo.thru {tb : Tables} {e : Env} {below : List Frame} {R : State → Outcome → Prop} {A B : State} (h : Steps tb e below A B) (k : OwnGo tb e below R B) : OwnGo tb e below R A := k.fwd fun _ q => h.trans q
/-- own: what a body leaves -/
def OwnEnd (s : State) (Q : Option Value → Heap → List Loc → Prop) (k n : Nat) : State → Outcome → Prop := fun U o => ∃ v L, o = .returned v ∧ Q v U.heap L ∧ FrameEnd s o U L k n
section OwnLeaf
variable {p : Program} {l : Launch} {e : Env} {R : Room} {s : State} {m : MethodId} {args : Array Value} {below : List Frame} {meth : Method} {c : Code} {T : State} {locs : List Loc} {cells slots : Nat} {Z : State} {a0 : Array Value} {h : Heap} {Q : Option Value → Heap → List Loc → Prop} {k n : Nat}
theorem own_leaf (X : Stand p l e R s m args below meth c T locs cells slots) (hlk : meth.locks = false) {v : Option Value} (hv : meth.sig.returnType = none → v = none) {g : JFrame} (hc : cells ≤ k) (hs : slots ≤ n) (eT : T.heap = h) (hQ : Q v h locs)
    (hl : ∀ fs, (∀ (f : JFrame) (acts : List Action), f.method = m → f.locked = none → f.entered = [] → (doReturn e (T.setTop f) acts v).1 = T.setFrames fs) → Steps p.tables e below (T.setTop g) (T.setFrames fs)) :
    OwnGo p.tables e below (OwnEnd s Q k n) (T.setTop g) := by
  obtain ⟨fs, hr, hrun, hended, hW, hsame⟩ := X.leave (v := v) hv hlk
  refine ⟨_, _, hl fs hr, hrun, hended, _, _, rfl, ?_, ⟨_, rfl⟩, hW, hsame.mono hc hs⟩
  show Q v T.heap locs
  rw [eT]; exact hQ
theorem own_retI (X : Stand p l e R s m args below meth c T locs cells slots) (hlk : meth.locks = false) (hx : p.tables.exec = Jvm.exec) {pc : Nat} {Ls : Array Slot} {z : Int32} {rest : List Value} (hret : meth.sig.returnType = some .int) (hd : decode c.code pc = .ok (.ireturn, 1)) (hc : cells ≤ k) (hs : slots ≤ n) (eT : T.heap = h) (hQ : Q (some (.int z)) h locs) :
    OwnGo p.tables e below (OwnEnd s Q k n) (T.setTop (mkF m pc Ls (.int z :: rest))) := by
  refine own_leaf X hlk (fun q => by rw [hret] at q; cases q) hc hs eT hQ fun fs hl => ?_
  have hm' : T.vm.method? m = some meth := X.method'
  have hn : narrow .int (.int z) = .int z := rfl
  show Steps p.tables e below (T.setTop { method := m, pc := pc, locals := Ls, stack := _ :: rest, locked := none }) _
  jvm_step X.here [X.here.top, hx, hd, hm', hret, hn]
  first | (intro acts; rw [hl _ acts rfl rfl rfl]) | rw [hl _ _ rfl rfl rfl]
  exact Steps.refl _
theorem own_retZ (X : Stand p l e R s m args below meth c T locs cells slots) (hlk : meth.locks = false) (hx : p.tables.exec = Jvm.exec) {pc : Nat} {Ls : Array Slot} {z : Int32} {rest : List Value} (hret : meth.sig.returnType = some .boolean) (hd : decode c.code pc = .ok (.ireturn, 1)) (hc : cells ≤ k) (hs : slots ≤ n) (eT : T.heap = h) (hQ : Q (some (.int (nar .boolean z))) h locs) :
    OwnGo p.tables e below (OwnEnd s Q k n) (T.setTop (mkF m pc Ls (.int z :: rest))) :=
  own_leaf X hlk (fun q => by rw [hret] at q; cases q) hc hs eT hQ fun fs hl => retN X hx (t := .boolean) hret (by simp) hd hl
theorem own_retJ (X : Stand p l e R s m args below meth c T locs cells slots) (hlk : meth.locks = false) (hx : p.tables.exec = Jvm.exec) {pc : Nat} {Ls : Array Slot} {z : Int64} (hret : meth.sig.returnType = some .long) (hd : decode c.code pc = .ok (.lreturn, 1)) (hc : cells ≤ k) (hs : slots ≤ n) (eT : T.heap = h) (hQ : Q (some (.long z)) h locs) :
    OwnGo p.tables e below (OwnEnd s Q k n) (T.setTop (mkF m pc Ls [.long z])) :=
  own_leaf X hlk (fun q => by rw [hret] at q; cases q) hc hs eT hQ fun fs hl => X.lreturnOut hx hret hd hl
theorem own_retV (X : Stand p l e R s m args below meth c T locs cells slots) (hlk : meth.locks = false) (hx : p.tables.exec = Jvm.exec) {pc : Nat} {Ls : Array Slot} (hret : meth.sig.returnType = none) (hd : decode c.code pc = .ok (.return_, 1)) (hc : cells ≤ k) (hs : slots ≤ n) (eT : T.heap = h) (hQ : Q none h locs) :
    OwnGo p.tables e below (OwnEnd s Q k n) (T.setTop (mkF m pc Ls [])) :=
  own_leaf X hlk (fun _ => rfl) hc hs eT hQ fun fs hl => X.returnOut hx hret hd hl
theorem own_retA (X : Stand p l e R s m args below meth c T locs cells slots) (hlk : meth.locks = false) (hx : p.tables.exec = Jvm.exec) {pc : Nat} {Ls : Array Slot} {w : Value} {rest : List Value} {t : FieldType} (hret : meth.sig.returnType = some t) (ht : t.isReference = true) (hw : w.isRef = true) (hd : decode c.code pc = .ok (.areturn, 1)) (hc : cells ≤ k) (hs : slots ≤ n) (eT : T.heap = h) (hQ : Q (some w) h locs) :
    OwnGo p.tables e below (OwnEnd s Q k n) (T.setTop (mkF m pc Ls (w :: rest))) :=
  own_leaf X hlk (fun q => by rw [hret] at q; cases q) hc hs eT hQ fun fs hl => retOut X hx hret (by cases t <;> first | (cases ht; done) | rfl) (Or.inr (Or.inr (Or.inr (Or.inr ⟨rfl, ht, hw⟩)))) hd hl
/-! own: int arrays, by a function of the place -/
def OwnIA (Z : State) (h : Heap) (a : Addr) (n : Nat) (f : Nat → Int32) : Prop := ∃ c : Cell, Arr Z h a c .int ∧ c.slots.size = n ∧ n < 2147483648 ∧ ∀ i, i < n → c.slots[i]? = some (.int (f i))
theorem OwnIA.lt {a : Addr} {n : Nat} {f : Nat → Int32} (F : OwnIA Z h a n f) : a < h.size := by obtain ⟨c, A, -⟩ := F; exact A.lt
theorem OwnIA.ext {h' : Heap} {a : Addr} {n : Nat} {f : Nat → Int32} (F : OwnIA Z h a n f) (E : Ext h h') : OwnIA Z h' a n f := by obtain ⟨c, A, r⟩ := F; exact ⟨c, A.ext E, r⟩
theorem OwnIA.other {h' : Heap} {a b : Addr} {n sl : Nat} {v : Value} {f : Nat → Int32} (F : OwnIA Z h b n f) (W : Wr h h' a sl v) (q : b ≠ a) : OwnIA Z h' b n f := by obtain ⟨c, A, r⟩ := F; exact ⟨c, A.other W q, r⟩
theorem OwnIA.keep {h' : Heap} {ws : List Addr} {a : Addr} {n : Nat} {f : Nat → Int32} (F : OwnIA Z h a n f) (K : Keep h h' ws) (q : a ∉ ws) : OwnIA Z h' a n f := by obtain ⟨c, A, r⟩ := F; exact ⟨c, ⟨K.2.1 a c A.1 q, A.2⟩, r⟩
theorem OwnIA.eqv {a : Addr} {n : Nat} {f f' : Nat → Int32} (F : OwnIA Z h a n f) (q : ∀ i, i < n → f i = f' i) : OwnIA Z h a n f' := by obtain ⟨c, A, r1, r2, r3⟩ := F; exact ⟨c, A, r1, r2, fun i hi => by rw [r3 i hi, q i hi]⟩
theorem own_clamp {j : Int32} {i : Nat} (hj : j.toInt = i) : j.toNatClampNeg = i := by simp only [Int32.toNatClampNeg]; omega
theorem own_inb {c : Cell} {j : Int32} {i n : Nat} (S : c.slots.size = n) (hj : j.toInt = i) (hi : i < n) : ¬ (j < 0 ∨ c.slots.size ≤ j.toNatClampNeg) := by
  rw [own_clamp hj, S]; simp only [Int32.lt_iff_toInt_lt, Int32.reduceToInt]; omega
theorem OwnIA.new {a : Addr} {k : ClassId} {z : Int32} {i : Nat} (A : Arr Z h a (newA k .int z) .int) (hz : z.toInt = i) : OwnIA Z h a i (fun _ => 0) := by
  have q := own_clamp hz
  have r := rng32 z
  exact ⟨_, A, by rw [sz_new]; exact q, by omega, fun j hj => by simp [newA, q, hj, defaultValue]⟩
theorem own_len (X : Stand p l e R s m args below meth c T locs cells slots) (hx : p.tables.exec = Jvm.exec) (hZ : Z.Warmed39 s.vm) (eT : T.heap = h) {a : Addr} {n : Nat} {f : Nat → Int32} (V : OwnIA Z h a n f) {g : JFrame} (hg : g.method = m) {rest : List Value} (hs : g.stack = .ref a :: rest) (hd : decode c.code g.pc = .ok (.arraylength, 1)) :
    ∀ target, Steps p.tables e below (T.setTop { g with pc := g.pc + 1, stack := .int (Int32.ofNat n) :: rest }) target → Steps p.tables e below (T.setTop g) target := by
  obtain ⟨cl, A, S, -⟩ := V
  subst S
  exact X.arraylength hx (by rw [eT]; exact A.1) (State.isArrayOf_alike hZ.alike A.2.1) hg hs hd
theorem own_iaload (X : Stand p l e R s m args below meth c T locs cells slots) (hx : p.tables.exec = Jvm.exec) (hZ : Z.Warmed39 s.vm) (eT : T.heap = h) {a : Addr} {n : Nat} {f : Nat → Int32} (V : OwnIA Z h a n f) {j : Int32} {i : Nat} (hj : j.toInt = i) (hi : i < n) {g : JFrame} (hg : g.method = m) {rest : List Value} (hs : g.stack = .int j :: .ref a :: rest) (hd : decode c.code g.pc = .ok (.iaload, 1)) :
    ∀ target, Steps p.tables e below (T.setTop { g with pc := g.pc + 1, stack := .int (f i) :: rest }) target → Steps p.tables e below (T.setTop g) target := by
  obtain ⟨cl, A, S, -, H⟩ := V
  exact X.iaload hx (by rw [eT]; exact A.1) (State.isArrayOf_alike hZ.alike A.2.1) A.2.2 (own_inb S hj hi) (by rw [own_clamp hj]; exact H i hi) hg hs hd
theorem own_iastore (X : Stand p l e R s m args below meth c T locs cells slots) (hx : p.tables.exec = Jvm.exec) (hZ : Z.Warmed39 s.vm) (eT : T.heap = h) {a : Addr} {n : Nat} {f : Nat → Int32} (V : OwnIA Z h a n f) {j x : Int32} {i : Nat} (hj : j.toInt = i) (hi : i < n) {g : JFrame} (hg : g.method = m) {rest : List Value} (hs : g.stack = .int x :: .int j :: .ref a :: rest) (hd : decode c.code g.pc = .ok (.iastore, 1)) :
    ∃ T' h', Stand p l e R s m args below meth c T' (locs ++ [⟨a, i⟩]) cells slots ∧ T'.heap = h' ∧ Wr h h' a i (.int x) ∧ OwnIA Z h' a n (fun k => if k = i then x else f k) ∧ ∀ target, Steps p.tables e below (T'.setTop { g with pc := g.pc + 1, stack := rest }) target → Steps p.tables e below (T.setTop g) target := by
  obtain ⟨cl, A, S, N, H⟩ := V
  obtain ⟨T', h', X', e', W, st⟩ := stI X hx hZ eT A (own_inb S hj hi) hg hs hd
  rw [own_clamp hj] at X' W
  refine ⟨T', h', X', e', W, ⟨_, A.same W, by rw [sz_set]; exact S, N, fun k hk => ?_⟩, st⟩
  by_cases q : k = i
  · subst q; simp [Cell.setSlot, S, hk]
  · simp only [Cell.setSlot, if_neg q]; rw [Array.getElem?_setIfInBounds_ne (Ne.symm q)]; exact H k hk
theorem own_newI (X : Stand p l e R s m args below meth c T locs cells slots) (hx : p.tables.exec = Jvm.exec) (hZ : Z.Warmed39 s.vm) (w : (Cond.arrayClass .int).before a0 Z = true) (eT : T.heap = h) {g : JFrame} (hg : g.method = m) (hd : decode c.code g.pc = .ok (.newarray .int, 2)) {z : Int32} {i : Nat} {rest : List Value} (hs : g.stack = .int z :: rest)
    (hz : z.toInt = i) {cap : Nat} (hcap : i ≤ cap) (hb : cap * 8 ≤ 536870912) (hc : cells + 1 ≤ R.cells) (hl : slots + cap ≤ R.slots) :
    ∃ T' h' a, Stand p l e R s m args below meth c T' locs (cells + 1) (slots + cap) ∧ T'.heap = h' ∧ Ext h h' ∧ a = h.size ∧ OwnIA Z h' a i (fun _ => 0) ∧ ∀ target, Steps p.tables e below (T'.setTop { g with pc := g.pc + 2, stack := .ref a :: rest }) target → Steps p.tables e below (T.setTop g) target := by
  have q := own_clamp hz
  obtain ⟨T', h', cA, X', e', E, A, st⟩ := newP X hx hZ (aty := .int) w eT hg hd hs (by simp only [Int32.lt_iff_toInt_lt, Int32.reduceToInt]; omega) (cap := cap) (by omega) hb hc hl
  exact ⟨T', h', _, X', e', E, rfl, OwnIA.new A hz, st⟩
end OwnLeaf
/-! own: branches, by the ints' own numbers -/
theorem own_blt {x y : Int32} {a b : Int} (hx : x.toInt = a) (hy : y.toInt = b) (h : a < b) : if_icmp.holds .lt x y = true ∧ if_icmp.holds .ge x y = false ∧ if_icmp.holds .gt y x = true ∧ if_icmp.holds .le y x = false := tlt (by rw [Int32.lt_iff_toInt_lt]; omega)
theorem own_bnlt {x y : Int32} {a b : Int} (hx : x.toInt = a) (hy : y.toInt = b) (h : ¬ a < b) : if_icmp.holds .lt x y = false ∧ if_icmp.holds .ge x y = true ∧ if_icmp.holds .gt y x = false ∧ if_icmp.holds .le y x = true := flt (by rw [Int32.lt_iff_toInt_lt]; omega)
theorem own_beq {x y : Int32} {a b : Int} (hx : x.toInt = a) (hy : y.toInt = b) (h : a = b) : if_icmp.holds .eq x y = true ∧ if_icmp.holds .ne x y = false := teq (Int32.toInt_inj.mp (by omega))
theorem own_bneq {x y : Int32} {a b : Int} (hx : x.toInt = a) (hy : y.toInt = b) (h : ¬ a = b) : if_icmp.holds .eq x y = false ∧ if_icmp.holds .ne x y = true := feq fun q => h (by rw [← hx, ← hy, q])
theorem own_Llt {x y : Int64} {a b : Int} (hx : x.toInt = a) (hy : y.toInt = b) (h : a < b) : ifCond.holds .lt (lcmpW x y) = true ∧ ifCond.holds .ge (lcmpW x y) = false := by
  have q : x < y := by rw [Int64.lt_iff_toInt_lt]; omega
  rw [if0, if0]; exact ⟨(tlt ((lw_lt x y).mpr q)).1, (tlt ((lw_lt x y).mpr q)).2.1⟩
theorem own_Lnlt {x y : Int64} {a b : Int} (hx : x.toInt = a) (hy : y.toInt = b) (h : ¬ a < b) : ifCond.holds .lt (lcmpW x y) = false ∧ ifCond.holds .ge (lcmpW x y) = true := by
  have q : ¬ x < y := by rw [Int64.lt_iff_toInt_lt]; omega
  rw [if0, if0]; exact ⟨(flt (fun r => q ((lw_lt x y).mp r))).1, (flt (fun r => q ((lw_lt x y).mp r))).2.1⟩
theorem own_Lgt {x y : Int64} {a b : Int} (hx : x.toInt = a) (hy : y.toInt = b) (h : b < a) : ifCond.holds .gt (lcmpW x y) = true ∧ ifCond.holds .le (lcmpW x y) = false := by
  have q : y < x := by rw [Int64.lt_iff_toInt_lt]; omega
  rw [if0, if0]; exact ⟨(tlt ((lw_gt x y).mpr q)).2.2.1, (tlt ((lw_gt x y).mpr q)).2.2.2⟩
theorem own_Lngt {x y : Int64} {a b : Int} (hx : x.toInt = a) (hy : y.toInt = b) (h : ¬ b < a) : ifCond.holds .gt (lcmpW x y) = false ∧ ifCond.holds .le (lcmpW x y) = true := by
  have q : ¬ y < x := by rw [Int64.lt_iff_toInt_lt]; omega
  rw [if0, if0]; exact ⟨(flt (fun r => q ((lw_gt x y).mp r))).2.2.1, (flt (fun r => q ((lw_gt x y).mp r))).2.2.2⟩
theorem own_Leq {x y : Int64} {a b : Int} (hx : x.toInt = a) (hy : y.toInt = b) (h : a = b) : ifCond.holds .eq (lcmpW x y) = true ∧ ifCond.holds .ne (lcmpW x y) = false := by
  have q : x = y := Int64.toInt_inj.mp (by omega)
  rw [if0, if0]; exact teq ((lw_eq x y).mpr q)
theorem own_Lneq {x y : Int64} {a b : Int} (hx : x.toInt = a) (hy : y.toInt = b) (h : ¬ a = b) : ifCond.holds .eq (lcmpW x y) = false ∧ ifCond.holds .ne (lcmpW x y) = true := by
  have q : ¬ x = y := fun r => h (by rw [← hx, ← hy, r])
  rw [if0, if0]; exact feq fun r => q ((lw_eq x y).mp r)
theorem own_ofNat {i : Nat} (h : i < 2147483648) : (Int32.ofNat i).toInt = (i : Int) := Int32.toInt_ofNat_small h
theorem own_ofNatS (i : Nat) : Int32.ofNat i + 1 = Int32.ofNat (i + 1) := (Int32.ofNat_add i 1).symm
theorem own_fieldInt {args : Array Value} {s : State} {t : Term} {C n d : String} {k : Int32} {w : Addr} (ht : t.eval args s none [] s = some (.ref w)) (h : (Jvm.Cond.eq (.field t C n d) (.int k)).value args s none s [] = some true) : Fld s s.heap w C n d (.int k) := by
  apply Fld.start
  obtain ⟨x, y, hx, hy, -, k2⟩ := cmp_v (Or.inl h)
  have hy' : y = .int k := Option.some.inj (hy.symm.trans (Term.int_eval k))
  subst hy'
  obtain ⟨z, rfl⟩ : ∃ z, x = .int z := k2
  have q := gotT (Cond.eq_ints hx hy) h
  subst q
  rw [← fld_at ht]; exact hx
end Jvm.RoadKit
namespace Jvm.Pilot.@@N@@
open Jvm Jvm.ClassFile Sem Op Lib Jvm.Free Jvm.Stand Jvm.LawKit Jvm.RoadKit Bundle Jvm.Pilot.@@N@@.Jvm.D
abbrev own_in (a b : Int32) (x : Int64) : Prop := a.toInt ≤ x.toInt ∧ x.toInt ≤ b.toInt
def own_ct (a b : Int32) (x : Int64) : Int32 := if own_in a b x then 1 else 0
theorem own_ct1 {a b : Int32} {x : Int64} (h : own_in a b x) : own_ct a b x = 1 := if_pos h
theorem own_ct0 {a b : Int32} {x : Int64} (h : ¬ own_in a b x) : own_ct a b x = 0 := if_neg h
theorem own_lo (a b : Int32) : (own_ct a b (a.toInt64 - (1 : Int64))).toInt = 0 := by
  rw [own_ct0]
  · decide
  · have q := c_lsub a.toInt64 (1 : Int64)
    have r := rng64 (a.toInt64 - (1 : Int64))
    have u := rng32 a
    have e1 : (1 : Int64).toInt = 1 := by decide
    have e2 := c_i2l a
    unfold own_in; omega
theorem own_hi (a b : Int32) : (own_ct a b (b.toInt64 + (1 : Int64))).toInt = 0 := by
  rw [own_ct0]
  · decide
  · have q := c_ladd b.toInt64 (1 : Int64)
    have r := rng64 (b.toInt64 + (1 : Int64))
    have u := rng32 b
    have e1 : (1 : Int64).toInt = 1 := by decide
    have e2 := c_i2l b
    unfold own_in; omega
theorem own_atA1 {a b : Int32} (h : ¬ b.toInt < a.toInt) : own_ct a b a.toInt64 = 1 := own_ct1 ⟨by rw [c_i2l]; omega, by rw [c_i2l]; omega⟩
theorem own_atA0 {a b : Int32} (h : b.toInt < a.toInt) : own_ct a b a.toInt64 = 0 := own_ct0 fun q => by have := q.2; rw [c_i2l] at this; omega
theorem own_atB1 {a b : Int32} (h : ¬ b.toInt < a.toInt) : own_ct a b b.toInt64 = 1 := own_ct1 ⟨by rw [c_i2l]; omega, by rw [c_i2l]; omega⟩
theorem own_atB0 {a b : Int32} (h : b.toInt < a.toInt) : own_ct a b b.toInt64 = 0 := own_ct0 fun q => by have := q.1; rw [c_i2l] at this; omega
theorem own_nx (n : Nat) (h : n < 2 ^ 63) : n ^^^ 2 ^ 63 = n + 2 ^ 63 := by
  apply Nat.eq_of_testBit_eq
  intro i
  rw [Nat.testBit_xor, Nat.testBit_two_pow, Nat.add_comm n]
  by_cases q : 63 = i
  · subst q; rw [Nat.testBit_two_pow_add_eq, Nat.testBit_lt_two_pow h]; rfl
  · by_cases r : i < 63
    · rw [Nat.testBit_two_pow_add_gt r]; simp [q]
    · rw [Nat.testBit_lt_two_pow (Nat.lt_of_lt_of_le h (Nat.pow_le_pow_right (by decide) (by omega))), Nat.testBit_lt_two_pow (show 2 ^ 63 + n < 2 ^ i from Nat.lt_of_lt_of_le (show 2 ^ 63 + n < 2 ^ 64 by omega) (Nat.pow_le_pow_right (by decide) (by omega)))]; simp [q]
theorem own_nx2 (n : Nat) (h : 2 ^ 63 ≤ n) (h2 : n < 2 ^ 64) : n ^^^ 2 ^ 63 = n - 2 ^ 63 := by
  have q := own_nx (n - 2 ^ 63) (by omega)
  rw [Nat.sub_add_cancel h] at q
  rw [← q, Nat.xor_assoc, Nat.xor_self, Nat.xor_zero, q]
theorem own_xm (x : Int64) : (x ^^^ (-9223372036854775808 : Int64)).toInt = if x.toInt < 0 then x.toInt + 9223372036854775808 else x.toInt - 9223372036854775808 := by
  have e : (x ^^^ (-9223372036854775808 : Int64)).toBitVec.toNat = x.toBitVec.toNat ^^^ 2 ^ 63 := by
    rw [Int64.toBitVec_xor, BitVec.toNat_xor]; rfl
  have b := x.toBitVec.isLt
  have f : ∀ y : Int64, y.toInt = if y.toBitVec.toNat < 2 ^ 63 then (y.toBitVec.toNat : Int) else (y.toBitVec.toNat : Int) - 2 ^ 64 := fun y => by
    show y.toBitVec.toInt = _
    rw [BitVec.toInt_eq_toNat_cond]
    split <;> split <;> first | rfl | omega
  rw [f (x ^^^ _), f x, e]
  by_cases q : x.toBitVec.toNat < 2 ^ 63
  · rw [own_nx _ q]; split <;> split <;> (try split) <;> omega
  · rw [own_nx2 _ (by omega) b]; split <;> split <;> (try split) <;> omega
theorem pd_0 : parseMethodDescriptor "(II)V" = some ⟨[.int, .int], none⟩ := by decide +kernel
theorem pd_1 : parseMethodDescriptor "()V" = some ⟨[], none⟩ := by decide +kernel
theorem pd_2 : parseMethodDescriptor "(J)Z" = some ⟨[.long], some .boolean⟩ := by decide +kernel
theorem pd_3 : parseMethodDescriptor "(IIJ)Z" = some ⟨[.int, .int, .long], some .boolean⟩ := by decide +kernel
theorem d2_0 : decode jdk_30_method_1_code 0 = .ok (.aload_n 0, 1) := by decide +kernel
theorem d2_1 : decode jdk_30_method_1_code 1 = .ok (.invokespecial 1, 3) := by decide +kernel
theorem d2_4 : decode jdk_30_method_1_code 4 = .ok (.return_, 1) := by decide +kernel
theorem pn_2 : plainName "java/lang/Record" = true := by first | (simp [plainName, overriddenIn]; done) | decide +kernel
theorem ef_2 (m : MethodId) (x0 : Addr) : entryFrame m #[(.ref x0)] 1 = mkF m 0 #[.val (.ref x0)] [] := by first | (simp [entryFrame, mkF, argsToLocals, Value.category, maxLocals]; done) | rfl
def Q2 (Z : State) (a : Addr) (h0 : Heap) (n0 : Nat) (v : Option Value) (h : Heap) (L : List Loc) : Prop := v = none ∧ Fr n0 L ∧ h = h0
set_option maxRecDepth 65536 in
set_option maxHeartbeats 40000000 in
theorem rm2 (l : Launch) (Z : State) (a0 : Array Value) (hw : ∀ d ∈ tables_1, d.before a0 Z = true) (ws : List Jvm.Cond) (a : Addr) (h0 : Heap) (n0 : Nat) (Z0 : n0 ≤ h0.size) :
    MetFree l (⟨"java/lang/Record", "<init>", "()V"⟩ : MethodName) (head1 (Jvm.Cond.code (⟨"java/lang/Record", "<init>", "()V"⟩ : MethodName) jdk_30_method_1_code 1 none :: ws) ({ frames := 1, cells := 0, slots := 0, locals := 12 } : Room)) (fun arr' U => arr' = #[(.ref a)] ∧ Z.Warmed39 U.vm ∧ U.heap = h0) (fun _ _ _ _ _ => True) (fun _ U o U' => ∃ v L, o = .returned v ∧ (Q2 Z a h0 n0) v U'.heap L ∧ FrameEnd U o U' L ({ frames := 1, cells := 0, slots := 0, locals := 12 } : Room).cells ({ frames := 1, cells := 0, slots := 0, locals := 12 } : Room).slots) := by
  refine MetFree.of_bodySF (plainFor_of_name pn_2) hisR ?_
  intro p e s m args below meth c s₁ Bd hml0 hP hK
  obtain ⟨rfl, hZ, hh⟩ := hP
  have hx := Bd.exec
  have hby := Bd.bytes
  have hlk : meth.locks = false := BodyLoose.notSynchronized Bd
  have hml : c.maxLocals = 1 := hml0
  have hown : s.vm.findClass "java/lang/Record" = some m.cls := findClass_of_methodNamed Bd.named
  have hnm := (name_of_methodNamed Bd.named Bd.method).1
  have X0 : Stand p l e ({ frames := 1, cells := 0, slots := 0, locals := 12 } : Room) s m #[(.ref a)] below meth c s₁ [] 0 0 := Stand.of_body Bd
  have e0 : s₁.heap = h0 := by rw [← hh, Bd.state]; rfl
  have N := Fr.nil n0
  have Zs := Z0
  change OwnGo p.tables e below (OwnEnd s (Q2 Z a h0 n0) ({ frames := 1, cells := 0, slots := 0, locals := 12 } : Room).cells ({ frames := 1, cells := 0, slots := 0, locals := 12 } : Room).slots) _
  refine OwnGo.fwd (fun tq' kq' => castTop (ef_2 m a) kq') ?_
  show OwnGo _ _ _ _ (s₁.setTop (mkF m 0 #[.val (.ref a)] []))
  refine OwnGo.fwd (fun tq' kq' => XS.aloadN X0.here hx rfl (hb hby d2_0) rfl rfl kq') ?_
  show OwnGo _ _ _ _ (s₁.setTop (mkF m 1 #[.val (.ref a)] [(.ref a)]))
  obtain ⟨T1, X1, e1, st1⟩ := initO X0 hx hZ hown (hw _ (List.mem_of_getElem? (i := 11) rfl)) (hw _ (List.mem_of_getElem? (i := 12) rfl)) (hw _ (List.mem_of_getElem? (i := 13) rfl)) e0 (g := (mkF m 1 #[.val (.ref a)] [(.ref a)])) rfl (by rw [hml]; rfl) rfl (hb hby d2_1) (by decide) (W := 0) (by show 2 * 0 + _ ≤ _; exact Nat.le_of_eq rfl) (by decide)
  refine OwnGo.fwd st1 ?_
  show OwnGo _ _ _ _ (T1.setTop (mkF m 4 #[.val (.ref a)] []))
  exact own_retV X1 hlk hx Bd.returns (hb hby d2_4) (by decide) (by decide) e1 ⟨rfl, N, rfl⟩
theorem d1_0 : decode prog_67_method_1_code 0 = .ok (.aload_n 0, 1) := by decide +kernel
theorem d1_1 : decode prog_67_method_1_code 1 = .ok (.invokespecial 1, 3) := by decide +kernel
theorem d1_4 : decode prog_67_method_1_code 4 = .ok (.aload_n 0, 1) := by decide +kernel
theorem d1_5 : decode prog_67_method_1_code 5 = .ok (.iload_n 1, 1) := by decide +kernel
theorem d1_6 : decode prog_67_method_1_code 6 = .ok (.putfield 7, 3) := by decide +kernel
theorem d1_9 : decode prog_67_method_1_code 9 = .ok (.aload_n 0, 1) := by decide +kernel
theorem d1_10 : decode prog_67_method_1_code 10 = .ok (.iload_n 2, 1) := by decide +kernel
theorem d1_11 : decode prog_67_method_1_code 11 = .ok (.putfield 13, 3) := by decide +kernel
theorem d1_14 : decode prog_67_method_1_code 14 = .ok (.return_, 1) := by decide +kernel
theorem pn_1 : plainName "com/example/cerrojo/cerrojo/Range" = true := by first | (simp [plainName, overriddenIn]; done) | decide +kernel
theorem ef_1 (m : MethodId) (x0 : Addr) (x1 : Int32) (x2 : Int32) : entryFrame m #[(.ref x0), (.int x1), (.int x2)] 3 = mkF m 0 #[.val (.ref x0), .val (.int x1), .val (.int x2)] [] := by first | (simp [entryFrame, mkF, argsToLocals, Value.category, maxLocals]; done) | rfl
def Q1 (Z : State) (a : Addr) (x : Int32) (y : Int32) (h0 : Heap) (n0 : Nat) (v : Option Value) (h : Heap) (L : List Loc) : Prop := v = none ∧ Fr n0 L ∧ Keep h0 h [a] ∧ Exa Z h a "com/example/cerrojo/cerrojo/Range" ∧ Fld Z h a "com/example/cerrojo/cerrojo/Range" "low" "I" (.int x) ∧ Fld Z h a "com/example/cerrojo/cerrojo/Range" "high" "I" (.int y)
set_option maxRecDepth 65536 in
set_option maxHeartbeats 40000000 in
theorem rm1 (l : Launch) (Z : State) (a0 : Array Value) (hw : ∀ d ∈ tables_1, d.before a0 Z = true) (ws : List Jvm.Cond) (a : Addr) (x : Int32) (y : Int32) (h0 : Heap) (n0 : Nat) (Z0 : n0 ≤ h0.size) (E_a : Exa Z h0 a "com/example/cerrojo/cerrojo/Range") (F_low_a : Fld Z h0 a "com/example/cerrojo/cerrojo/Range" "low" "I" (.int 0)) (F_high_a : Fld Z h0 a "com/example/cerrojo/cerrojo/Range" "high" "I" (.int 0)) (g_a : n0 ≤ a) :
    MetFree l (⟨"com/example/cerrojo/cerrojo/Range", "<init>", "(II)V"⟩ : MethodName) (head1 (Jvm.Cond.code (⟨"com/example/cerrojo/cerrojo/Range", "<init>", "(II)V"⟩ : MethodName) prog_67_method_1_code 3 none :: ws) ({ frames := 2, cells := 0, slots := 0, locals := 24 } : Room)) (fun arr' U => arr' = #[(.ref a), (.int x), (.int y)] ∧ Z.Warmed39 U.vm ∧ U.heap = h0) (fun _ _ _ _ _ => True) (fun _ U o U' => ∃ v L, o = .returned v ∧ (Q1 Z a x y h0 n0) v U'.heap L ∧ FrameEnd U o U' L ({ frames := 2, cells := 0, slots := 0, locals := 24 } : Room).cells ({ frames := 2, cells := 0, slots := 0, locals := 24 } : Room).slots) := by
  refine MetFree.of_bodySF (plainFor_of_name pn_1) hisR ?_
  intro p e s m args below meth c s₁ Bd hml0 hP hK
  obtain ⟨rfl, hZ, hh⟩ := hP
  have hx := Bd.exec
  have hby := Bd.bytes
  have hlk : meth.locks = false := BodyLoose.notSynchronized Bd
  have hml : c.maxLocals = 3 := hml0
  have hown : s.vm.findClass "com/example/cerrojo/cerrojo/Range" = some m.cls := findClass_of_methodNamed Bd.named
  have hnm := (name_of_methodNamed Bd.named Bd.method).1
  have X0 : Stand p l e ({ frames := 2, cells := 0, slots := 0, locals := 24 } : Room) s m #[(.ref a), (.int x), (.int y)] below meth c s₁ [] 0 0 := Stand.of_body Bd
  have e0 : s₁.heap = h0 := by rw [← hh, Bd.state]; rfl
  have N := Fr.nil n0
  have Zs := Z0
  change OwnGo p.tables e below (OwnEnd s (Q1 Z a x y h0 n0) ({ frames := 2, cells := 0, slots := 0, locals := 24 } : Room).cells ({ frames := 2, cells := 0, slots := 0, locals := 24 } : Room).slots) _
  refine OwnGo.fwd (fun tq' kq' => castTop (ef_1 m a x y) kq') ?_
  show OwnGo _ _ _ _ (s₁.setTop (mkF m 0 #[.val (.ref a), .val (.int x), .val (.int y)] []))
  have K : Keep h0 h0 [a] := Keep.refl _ _
  refine OwnGo.fwd (fun tq' kq' => XS.aloadN X0.here hx rfl (hb hby d1_0) rfl rfl kq') ?_
  show OwnGo _ _ _ _ (s₁.setTop (mkF m 1 #[.val (.ref a), .val (.int x), .val (.int y)] [(.ref a)]))
  obtain ⟨_, _, ⟨T1, L1, k1, n1⟩, -, X1, ⟨Lc1, hQ1, l1, y1, z1⟩, st1⟩ := X0.specialBack hx (y := (⟨"java/lang/Record", "<init>", "()V"⟩ : MethodName)) rfl hown (mvT hZ (hw _ (List.mem_of_getElem? (i := 6) rfl))) (mvT hZ (hw _ (List.mem_of_getElem? (i := 7) rfl))) (mvT hZ (hw _ (List.mem_of_getElem? (i := 10) rfl))) (by decide) (backOf (W := 0) (rm2 l Z a0 hw [] a h0 n0 Zs) hZ (hw _ (List.mem_of_getElem? (i := 10) rfl)) (hw _ (List.mem_of_getElem? (i := 9) rfl)) (by decide) (by decide)) (g := (mkF m 1 #[.val (.ref a), .val (.int x), .val (.int y)] [(.ref a)])) rfl (by rw [hml]; rfl) (Steps.refl _) (a := a) (argsL := []) (rest := []) (lenOf pd_1 rfl) rfl (by show 2 * 0 + _ ≤ _; exact Nat.le_of_eq rfl) (hb hby d1_1) (fun _ _ => ⟨rfl, e0, (by decide : 0 + 0 ≤ _), (by decide : 0 + 0 ≤ _)⟩)
  dsimp only [Pt.U, Pt.locs, Pt.cells, Pt.slots] at X1 l1 y1 z1 st1 hQ1
  subst l1 y1 z1
  obtain ⟨rfl, N1q, e1⟩ := hQ1
  have N := Fr.app N N1q
  refine OwnGo.thru st1 ?_
  show OwnGo _ _ _ _ (T1.setTop (mkF m 4 #[.val (.ref a), .val (.int x), .val (.int y)] []))
  refine OwnGo.fwd (fun tq' kq' => XS.aloadN X1.here hx rfl (hb hby d1_4) rfl rfl kq') ?_
  show OwnGo _ _ _ _ (T1.setTop (mkF m 5 #[.val (.ref a), .val (.int x), .val (.int y)] [(.ref a)]))
  refine OwnGo.fwd (fun tq' kq' => XS.iloadN X1.here hx rfl (hb hby d1_5) rfl kq') ?_
  show OwnGo _ _ _ _ (T1.setTop (mkF m 6 #[.val (.ref a), .val (.int x), .val (.int y)] [(.int x), (.ref a)]))
  obtain ⟨T2, h2, X2, e2, W2, st2⟩ := putF X1 hx hZ hown (host := "") (Or.inl (hw _ (List.mem_of_getElem? (i := 14) rfl))) Via.refl e1 F_low_a E_a (Or.inr ⟨(hw _ (List.mem_of_getElem? (i := 15) rfl)), rfl, hnm⟩) (hw _ (List.mem_of_getElem? (i := 1) rfl)) (ty := .int) (by decide) rfl rfl (g := (mkF m 6 #[.val (.ref a), .val (.int x), .val (.int y)] [(.int x), (.ref a)])) rfl rfl (hb hby d1_6)
  have E_a := E_a.wr W2
  have F_low_a := F_low_a.same W2
  have F_high_a := F_high_a.other W2 (Or.inr (slot_ne (Or.inr (hw _ (List.mem_of_getElem? (i := 17) rfl))) (Or.inr (hw _ (List.mem_of_getElem? (i := 15) rfl))) (by decide) (t := .int) (t' := .int) (by decide) (by decide)))
  have K := K.wr W2 (Or.inl (List.mem_of_getElem? (i := 0) rfl))
  have Zs := Nat.le_trans Zs (Keep.of_wr W2).1
  have N := Fr.snoc X2 N g_a
  refine OwnGo.fwd st2 ?_
  show OwnGo _ _ _ _ (T2.setTop (mkF m 9 #[.val (.ref a), .val (.int x), .val (.int y)] []))
  refine OwnGo.fwd (fun tq' kq' => XS.aloadN X2.here hx rfl (hb hby d1_9) rfl rfl kq') ?_
  show OwnGo _ _ _ _ (T2.setTop (mkF m 10 #[.val (.ref a), .val (.int x), .val (.int y)] [(.ref a)]))
  refine OwnGo.fwd (fun tq' kq' => XS.iloadN X2.here hx rfl (hb hby d1_10) rfl kq') ?_
  show OwnGo _ _ _ _ (T2.setTop (mkF m 11 #[.val (.ref a), .val (.int x), .val (.int y)] [(.int y), (.ref a)]))
  obtain ⟨T3, h3, X3, e3, W3, st3⟩ := putF X2 hx hZ hown (host := "") (Or.inl (hw _ (List.mem_of_getElem? (i := 16) rfl))) Via.refl e2 F_high_a E_a (Or.inr ⟨(hw _ (List.mem_of_getElem? (i := 17) rfl)), rfl, hnm⟩) (hw _ (List.mem_of_getElem? (i := 1) rfl)) (ty := .int) (by decide) rfl rfl (g := (mkF m 11 #[.val (.ref a), .val (.int x), .val (.int y)] [(.int y), (.ref a)])) rfl rfl (hb hby d1_11)
  have E_a := E_a.wr W3
  have F_low_a := F_low_a.other W3 (Or.inr (slot_ne (Or.inr (hw _ (List.mem_of_getElem? (i := 15) rfl))) (Or.inr (hw _ (List.mem_of_getElem? (i := 17) rfl))) (by decide) (t := .int) (t' := .int) (by decide) (by decide)))
  have F_high_a := F_high_a.same W3
  have K := K.wr W3 (Or.inl (List.mem_of_getElem? (i := 0) rfl))
  have Zs := Nat.le_trans Zs (Keep.of_wr W3).1
  have N := Fr.snoc X3 N g_a
  refine OwnGo.fwd st3 ?_
  show OwnGo _ _ _ _ (T3.setTop (mkF m 14 #[.val (.ref a), .val (.int x), .val (.int y)] []))
  exact own_retV X3 hlk hx Bd.returns (hb hby d1_14) (by decide) (by decide) e3 ⟨rfl, N, K, E_a, F_low_a, F_high_a⟩
theorem d4_0 : decode prog_67_method_3_code 0 = .ok (.lload_n 1, 1) := by decide +kernel
theorem d4_1 : decode prog_67_method_3_code 1 = .ok (.aload_n 0, 1) := by decide +kernel
theorem d4_2 : decode prog_67_method_3_code 2 = .ok (.getfield 7, 3) := by decide +kernel
theorem d4_5 : decode prog_67_method_3_code 5 = .ok (.i2l, 1) := by decide +kernel
theorem d4_6 : decode prog_67_method_3_code 6 = .ok (.lcmp, 1) := by decide +kernel
theorem d4_7 : decode prog_67_method_3_code 7 = .ok (.ifCond .lt 17, 3) := by decide +kernel
theorem d4_10 : decode prog_67_method_3_code 10 = .ok (.lload_n 1, 1) := by decide +kernel
theorem d4_11 : decode prog_67_method_3_code 11 = .ok (.aload_n 0, 1) := by decide +kernel
theorem d4_12 : decode prog_67_method_3_code 12 = .ok (.getfield 13, 3) := by decide +kernel
theorem d4_15 : decode prog_67_method_3_code 15 = .ok (.i2l, 1) := by decide +kernel
theorem d4_16 : decode prog_67_method_3_code 16 = .ok (.lcmp, 1) := by decide +kernel
theorem d4_17 : decode prog_67_method_3_code 17 = .ok (.ifCond .gt 7, 3) := by decide +kernel
theorem d4_20 : decode prog_67_method_3_code 20 = .ok (.iconst 1, 1) := by decide +kernel
theorem d4_21 : decode prog_67_method_3_code 21 = .ok (.goto 4, 3) := by decide +kernel
theorem d4_24 : decode prog_67_method_3_code 24 = .ok (.iconst 0, 1) := by decide +kernel
theorem d4_25 : decode prog_67_method_3_code 25 = .ok (.ireturn, 1) := by decide +kernel
theorem pn_4 : plainName "com/example/cerrojo/cerrojo/Range" = true := by first | (simp [plainName, overriddenIn]; done) | decide +kernel
theorem ef_4 (m : MethodId) (x0 : Addr) (x1 : Int64) : entryFrame m #[(.ref x0), (.long x1)] 3 = mkF m 0 #[.val (.ref x0), .val (.long x1), .second] [] := by first | (simp [entryFrame, mkF, argsToLocals, Value.category, maxLocals]; done) | rfl
def Q4 (Z : State) (a : Addr) (x : Int32) (y : Int32) (q : Int64) (h0 : Heap) (n0 : Nat) (v : Option Value) (h : Heap) (L : List Loc) : Prop := v = some (.int (own_ct x y q)) ∧ Fr n0 L ∧ h = h0
set_option maxRecDepth 65536 in
set_option maxHeartbeats 40000000 in
theorem rm4 (l : Launch) (Z : State) (a0 : Array Value) (hw : ∀ d ∈ tables_1, d.before a0 Z = true) (ws : List Jvm.Cond) (a : Addr) (x : Int32) (y : Int32) (q : Int64) (h0 : Heap) (n0 : Nat) (Z0 : n0 ≤ h0.size) (F_low_a : Fld Z h0 a "com/example/cerrojo/cerrojo/Range" "low" "I" (.int x)) (F_high_a : Fld Z h0 a "com/example/cerrojo/cerrojo/Range" "high" "I" (.int y)) :
    MetFree l (⟨"com/example/cerrojo/cerrojo/Range", "contains", "(J)Z"⟩ : MethodName) (head1 (Jvm.Cond.code (⟨"com/example/cerrojo/cerrojo/Range", "contains", "(J)Z"⟩ : MethodName) prog_67_method_3_code 3 (some .boolean) :: ws) ({ frames := 0, cells := 0, slots := 0, locals := 0 } : Room)) (fun arr' U => arr' = #[(.ref a), (.long q)] ∧ Z.Warmed39 U.vm ∧ U.heap = h0) (fun _ _ _ _ _ => True) (fun _ U o U' => ∃ v L, o = .returned v ∧ (Q4 Z a x y q h0 n0) v U'.heap L ∧ FrameEnd U o U' L ({ frames := 0, cells := 0, slots := 0, locals := 0 } : Room).cells ({ frames := 0, cells := 0, slots := 0, locals := 0 } : Room).slots) := by
  refine MetFree.of_bodySF (plainFor_of_name pn_4) hisR ?_
  intro p e s m args below meth c s₁ Bd hml0 hP hK
  obtain ⟨rfl, hZ, hh⟩ := hP
  have hx := Bd.exec
  have hby := Bd.bytes
  have hlk : meth.locks = false := BodyLoose.notSynchronized Bd
  have hml : c.maxLocals = 3 := hml0
  have hown : s.vm.findClass "com/example/cerrojo/cerrojo/Range" = some m.cls := findClass_of_methodNamed Bd.named
  have hnm := (name_of_methodNamed Bd.named Bd.method).1
  have X0 : Stand p l e ({ frames := 0, cells := 0, slots := 0, locals := 0 } : Room) s m #[(.ref a), (.long q)] below meth c s₁ [] 0 0 := Stand.of_body Bd
  have e0 : s₁.heap = h0 := by rw [← hh, Bd.state]; rfl
  have N := Fr.nil n0
  have Zs := Z0
  change OwnGo p.tables e below (OwnEnd s (Q4 Z a x y q h0 n0) ({ frames := 0, cells := 0, slots := 0, locals := 0 } : Room).cells ({ frames := 0, cells := 0, slots := 0, locals := 0 } : Room).slots) _
  refine OwnGo.fwd (fun tq' kq' => castTop (ef_4 m a q) kq') ?_
  show OwnGo _ _ _ _ (s₁.setTop (mkF m 0 #[.val (.ref a), .val (.long q), .second] []))
  refine OwnGo.fwd (fun tq' kq' => XS.lloadN X0.here hx rfl (hb hby d4_0) rfl kq') ?_
  show OwnGo _ _ _ _ (s₁.setTop (mkF m 1 #[.val (.ref a), .val (.long q), .second] [(.long q)]))
  refine OwnGo.fwd (fun tq' kq' => XS.aloadN X0.here hx rfl (hb hby d4_1) rfl rfl kq') ?_
  show OwnGo _ _ _ _ (s₁.setTop (mkF m 2 #[.val (.ref a), .val (.long q), .second] [(.ref a), (.long q)]))
  obtain ⟨T1, X1, e1, st1⟩ := getF X0 hx hZ hown (host := "") (Or.inl (hw _ (List.mem_of_getElem? (i := 14) rfl))) Via.refl e0 F_low_a (g := (mkF m 2 #[.val (.ref a), .val (.long q), .second] [(.ref a), (.long q)])) rfl rfl (hb hby d4_2)
  refine OwnGo.fwd st1 ?_
  show OwnGo _ _ _ _ (T1.setTop (mkF m 5 #[.val (.ref a), .val (.long q), .second] [(.int x), (.long q)]))
  refine OwnGo.fwd (fun tq' kq' => XS.i2l X1.here hx rfl (hb hby d4_5) rfl kq') ?_
  show OwnGo _ _ _ _ (T1.setTop (mkF m 6 #[.val (.ref a), .val (.long q), .second] [(.long x.toInt64), (.long q)]))
  refine OwnGo.fwd (fun tq' kq' => XS.lcmp X1.here hx rfl (hb hby d4_6) rfl kq') ?_
  show OwnGo _ _ _ _ (T1.setTop (mkF m 7 #[.val (.ref a), .val (.long q), .second] [(.int (lcmpW q x.toInt64))]))
  by_cases hc7_2 : q.toInt < x.toInt
  · refine OwnGo.fwd (fun tq' kq' => XS.ifYes X1.here hx rfl (pc0 := 7) (pc' := 24) rfl (hb hby d4_7) rfl (own_Llt rfl ((c_i2l _).trans rfl) hc7_2).1 (by decide) (by decide) kq') ?_
    show OwnGo _ _ _ _ (T1.setTop (mkF m 24 #[.val (.ref a), .val (.long q), .second] []))
    refine OwnGo.fwd (fun tq' kq' => XS.iconst X1.here hx rfl (hb hby d4_24) kq') ?_
    show OwnGo _ _ _ _ (T1.setTop (mkF m 25 #[.val (.ref a), .val (.long q), .second] [(.int (0 : Int32))]))
    exact own_retZ X1 hlk hx Bd.returns (hb hby d4_25) (by decide) (by decide) e1 ⟨by rw [own_ct0 (fun u => by have := u.1; have := u.2; omega)]; rfl, N, rfl⟩
  · refine OwnGo.fwd (fun tq' kq' => XS.ifNo X1.here hx rfl (hb hby d4_7) rfl (own_Lnlt rfl ((c_i2l _).trans rfl) hc7_2).1 kq') ?_
    show OwnGo _ _ _ _ (T1.setTop (mkF m 10 #[.val (.ref a), .val (.long q), .second] []))
    refine OwnGo.fwd (fun tq' kq' => XS.lloadN X1.here hx rfl (hb hby d4_10) rfl kq') ?_
    show OwnGo _ _ _ _ (T1.setTop (mkF m 11 #[.val (.ref a), .val (.long q), .second] [(.long q)]))
    refine OwnGo.fwd (fun tq' kq' => XS.aloadN X1.here hx rfl (hb hby d4_11) rfl rfl kq') ?_
    show OwnGo _ _ _ _ (T1.setTop (mkF m 12 #[.val (.ref a), .val (.long q), .second] [(.ref a), (.long q)]))
    obtain ⟨T3, X3, e3, st3⟩ := getF X1 hx hZ hown (host := "") (Or.inl (hw _ (List.mem_of_getElem? (i := 16) rfl))) Via.refl e1 F_high_a (g := (mkF m 12 #[.val (.ref a), .val (.long q), .second] [(.ref a), (.long q)])) rfl rfl (hb hby d4_12)
    refine OwnGo.fwd st3 ?_
    show OwnGo _ _ _ _ (T3.setTop (mkF m 15 #[.val (.ref a), .val (.long q), .second] [(.int y), (.long q)]))
    refine OwnGo.fwd (fun tq' kq' => XS.i2l X3.here hx rfl (hb hby d4_15) rfl kq') ?_
    show OwnGo _ _ _ _ (T3.setTop (mkF m 16 #[.val (.ref a), .val (.long q), .second] [(.long y.toInt64), (.long q)]))
    refine OwnGo.fwd (fun tq' kq' => XS.lcmp X3.here hx rfl (hb hby d4_16) rfl kq') ?_
    show OwnGo _ _ _ _ (T3.setTop (mkF m 17 #[.val (.ref a), .val (.long q), .second] [(.int (lcmpW q y.toInt64))]))
    by_cases hc17_4 : y.toInt < q.toInt
    · refine OwnGo.fwd (fun tq' kq' => XS.ifYes X3.here hx rfl (pc0 := 17) (pc' := 24) rfl (hb hby d4_17) rfl (own_Lgt rfl ((c_i2l _).trans rfl) hc17_4).1 (by decide) (by decide) kq') ?_
      show OwnGo _ _ _ _ (T3.setTop (mkF m 24 #[.val (.ref a), .val (.long q), .second] []))
      refine OwnGo.fwd (fun tq' kq' => XS.iconst X3.here hx rfl (hb hby d4_24) kq') ?_
      show OwnGo _ _ _ _ (T3.setTop (mkF m 25 #[.val (.ref a), .val (.long q), .second] [(.int (0 : Int32))]))
      exact own_retZ X3 hlk hx Bd.returns (hb hby d4_25) (by decide) (by decide) e3 ⟨by rw [own_ct0 (fun u => by have := u.1; have := u.2; omega)]; rfl, N, rfl⟩
    · refine OwnGo.fwd (fun tq' kq' => XS.ifNo X3.here hx rfl (hb hby d4_17) rfl (own_Lngt rfl ((c_i2l _).trans rfl) hc17_4).1 kq') ?_
      show OwnGo _ _ _ _ (T3.setTop (mkF m 20 #[.val (.ref a), .val (.long q), .second] []))
      refine OwnGo.fwd (fun tq' kq' => XS.iconst X3.here hx rfl (hb hby d4_20) kq') ?_
      show OwnGo _ _ _ _ (T3.setTop (mkF m 21 #[.val (.ref a), .val (.long q), .second] [(.int (1 : Int32))]))
      refine OwnGo.fwd (fun tq' kq' => XS.goto X3.here hx rfl (pc0 := 21) (pc' := 25) rfl (hb hby d4_21) (by decide) (by decide) kq') ?_
      show OwnGo _ _ _ _ (T3.setTop (mkF m 25 #[.val (.ref a), .val (.long q), .second] [(.int (1 : Int32))]))
      exact own_retZ X3 hlk hx Bd.returns (hb hby d4_25) (by decide) (by decide) e3 ⟨by rw [own_ct1 ⟨by omega, by omega⟩]; rfl, N, rfl⟩
theorem d5_0 : decode method_3_code 0 = .ok (.iload_n 0, 1) := by decide +kernel
theorem d5_1 : decode method_3_code 1 = .ok (.iload_n 1, 1) := by decide +kernel
theorem d5_2 : decode method_3_code 2 = .ok (.if_icmp .le 5, 3) := by decide +kernel
theorem d5_5 : decode method_3_code 5 = .ok (.iconst 0, 1) := by decide +kernel
theorem d5_6 : decode method_3_code 6 = .ok (.ireturn, 1) := by decide +kernel
theorem d5_7 : decode method_3_code 7 = .ok (.lload_n 2, 1) := by decide +kernel
theorem d5_8 : decode method_3_code 8 = .ok (.iload_n 0, 1) := by decide +kernel
theorem d5_9 : decode method_3_code 9 = .ok (.i2l, 1) := by decide +kernel
theorem d5_10 : decode method_3_code 10 = .ok (.lsub, 1) := by decide +kernel
theorem d5_11 : decode method_3_code 11 = .ok (.lstore 4, 2) := by decide +kernel
theorem d5_13 : decode method_3_code 13 = .ok (.iload_n 1, 1) := by decide +kernel
theorem d5_14 : decode method_3_code 14 = .ok (.i2l, 1) := by decide +kernel
theorem d5_15 : decode method_3_code 15 = .ok (.iload_n 0, 1) := by decide +kernel
theorem d5_16 : decode method_3_code 16 = .ok (.i2l, 1) := by decide +kernel
theorem d5_17 : decode method_3_code 17 = .ok (.lsub, 1) := by decide +kernel
theorem d5_18 : decode method_3_code 18 = .ok (.lstore 6, 2) := by decide +kernel
theorem d5_20 : decode method_3_code 20 = .ok (.lload 4, 2) := by decide +kernel
theorem d5_22 : decode method_3_code 22 = .ok (.ldc2_w 25, 3) := by decide +kernel
theorem d5_25 : decode method_3_code 25 = .ok (.lxor, 1) := by decide +kernel
theorem d5_26 : decode method_3_code 26 = .ok (.lload 6, 2) := by decide +kernel
theorem d5_28 : decode method_3_code 28 = .ok (.ldc2_w 25, 3) := by decide +kernel
theorem d5_31 : decode method_3_code 31 = .ok (.lxor, 1) := by decide +kernel
theorem d5_32 : decode method_3_code 32 = .ok (.lcmp, 1) := by decide +kernel
theorem d5_33 : decode method_3_code 33 = .ok (.ifCond .gt 7, 3) := by decide +kernel
theorem d5_36 : decode method_3_code 36 = .ok (.iconst 1, 1) := by decide +kernel
theorem d5_37 : decode method_3_code 37 = .ok (.goto 4, 3) := by decide +kernel
theorem d5_40 : decode method_3_code 40 = .ok (.iconst 0, 1) := by decide +kernel
theorem d5_41 : decode method_3_code 41 = .ok (.ireturn, 1) := by decide +kernel
theorem pn_5 : plainName "com/example/cerrojo/cerrojo/RangeContainsPinLaw" = true := by first | (simp [plainName, overriddenIn]; done) | decide +kernel
theorem ef_5 (m : MethodId) (x0 : Int32) (x1 : Int32) (x2 : Int64) : entryFrame m #[(.int x0), (.int x1), (.long x2)] 8 = mkF m 0 #[.val (.int x0), .val (.int x1), .val (.long x2), .second, .unset, .unset, .unset, .unset] [] := by first | (simp [entryFrame, mkF, argsToLocals, Value.category, maxLocals]; done) | rfl
def Q5 (Z : State) (x : Int32) (y : Int32) (q : Int64) (h0 : Heap) (n0 : Nat) (v : Option Value) (h : Heap) (L : List Loc) : Prop := v = some (.int (own_ct x y q)) ∧ Fr n0 L ∧ h = h0
set_option maxRecDepth 65536 in
set_option maxHeartbeats 40000000 in
theorem rm5 (l : Launch) (Z : State) (a0 : Array Value) (hw : ∀ d ∈ tables_1, d.before a0 Z = true) (ws : List Jvm.Cond) (x : Int32) (y : Int32) (q : Int64) (h0 : Heap) (n0 : Nat) (Z0 : n0 ≤ h0.size) :
    MetFree l (⟨"com/example/cerrojo/cerrojo/RangeContainsPinLaw", "ref", "(IIJ)Z"⟩ : MethodName) (head1 (Jvm.Cond.code (⟨"com/example/cerrojo/cerrojo/RangeContainsPinLaw", "ref", "(IIJ)Z"⟩ : MethodName) method_3_code 8 (some .boolean) :: ws) ({ frames := 0, cells := 0, slots := 0, locals := 0 } : Room)) (fun arr' U => arr' = #[(.int x), (.int y), (.long q)] ∧ Z.Warmed39 U.vm ∧ U.heap = h0) (fun _ _ _ _ _ => True) (fun _ U o U' => ∃ v L, o = .returned v ∧ (Q5 Z x y q h0 n0) v U'.heap L ∧ FrameEnd U o U' L ({ frames := 0, cells := 0, slots := 0, locals := 0 } : Room).cells ({ frames := 0, cells := 0, slots := 0, locals := 0 } : Room).slots) := by
  refine MetFree.of_bodySF (plainFor_of_name pn_5) hisR ?_
  intro p e s m args below meth c s₁ Bd hml0 hP hK
  obtain ⟨rfl, hZ, hh⟩ := hP
  have hx := Bd.exec
  have hby := Bd.bytes
  have hlk : meth.locks = false := BodyLoose.notSynchronized Bd
  have hml : c.maxLocals = 8 := hml0
  have hown : s.vm.findClass "com/example/cerrojo/cerrojo/RangeContainsPinLaw" = some m.cls := findClass_of_methodNamed Bd.named
  have hnm := (name_of_methodNamed Bd.named Bd.method).1
  have X0 : Stand p l e ({ frames := 0, cells := 0, slots := 0, locals := 0 } : Room) s m #[(.int x), (.int y), (.long q)] below meth c s₁ [] 0 0 := Stand.of_body Bd
  have e0 : s₁.heap = h0 := by rw [← hh, Bd.state]; rfl
  have N := Fr.nil n0
  have Zs := Z0
  change OwnGo p.tables e below (OwnEnd s (Q5 Z x y q h0 n0) ({ frames := 0, cells := 0, slots := 0, locals := 0 } : Room).cells ({ frames := 0, cells := 0, slots := 0, locals := 0 } : Room).slots) _
  refine OwnGo.fwd (fun tq' kq' => castTop (ef_5 m x y q) kq') ?_
  show OwnGo _ _ _ _ (s₁.setTop (mkF m 0 #[.val (.int x), .val (.int y), .val (.long q), .second, .unset, .unset, .unset, .unset] []))
  refine OwnGo.fwd (fun tq' kq' => XS.iloadN X0.here hx rfl (hb hby d5_0) rfl kq') ?_
  show OwnGo _ _ _ _ (s₁.setTop (mkF m 1 #[.val (.int x), .val (.int y), .val (.long q), .second, .unset, .unset, .unset, .unset] [(.int x)]))
  refine OwnGo.fwd (fun tq' kq' => XS.iloadN X0.here hx rfl (hb hby d5_1) rfl kq') ?_
  show OwnGo _ _ _ _ (s₁.setTop (mkF m 2 #[.val (.int x), .val (.int y), .val (.long q), .second, .unset, .unset, .unset, .unset] [(.int y), (.int x)]))
  by_cases hc2_1 : y.toInt < x.toInt
  · refine OwnGo.fwd (fun tq' kq' => XS.icmpNo X0.here hx rfl (hb hby d5_2) rfl (own_blt rfl rfl hc2_1).2.2.2 kq') ?_
    show OwnGo _ _ _ _ (s₁.setTop (mkF m 5 #[.val (.int x), .val (.int y), .val (.long q), .second, .unset, .unset, .unset, .unset] []))
    refine OwnGo.fwd (fun tq' kq' => XS.iconst X0.here hx rfl (hb hby d5_5) kq') ?_
    show OwnGo _ _ _ _ (s₁.setTop (mkF m 6 #[.val (.int x), .val (.int y), .val (.long q), .second, .unset, .unset, .unset, .unset] [(.int (0 : Int32))]))
    exact own_retZ X0 hlk hx Bd.returns (hb hby d5_6) (by decide) (by decide) e0 ⟨by rw [own_ct0 (fun u => by have := u.1; have := u.2; omega)]; rfl, N, rfl⟩
  · refine OwnGo.fwd (fun tq' kq' => XS.icmpYes X0.here hx rfl (pc0 := 2) (pc' := 7) rfl (hb hby d5_2) rfl (own_bnlt rfl rfl hc2_1).2.2.2 (by decide) (by decide) kq') ?_
    show OwnGo _ _ _ _ (s₁.setTop (mkF m 7 #[.val (.int x), .val (.int y), .val (.long q), .second, .unset, .unset, .unset, .unset] []))
    refine OwnGo.fwd (fun tq' kq' => XS.lloadN X0.here hx rfl (hb hby d5_7) rfl kq') ?_
    show OwnGo _ _ _ _ (s₁.setTop (mkF m 8 #[.val (.int x), .val (.int y), .val (.long q), .second, .unset, .unset, .unset, .unset] [(.long q)]))
    refine OwnGo.fwd (fun tq' kq' => XS.iloadN X0.here hx rfl (hb hby d5_8) rfl kq') ?_
    show OwnGo _ _ _ _ (s₁.setTop (mkF m 9 #[.val (.int x), .val (.int y), .val (.long q), .second, .unset, .unset, .unset, .unset] [(.int x), (.long q)]))
    refine OwnGo.fwd (fun tq' kq' => XS.i2l X0.here hx rfl (hb hby d5_9) rfl kq') ?_
    show OwnGo _ _ _ _ (s₁.setTop (mkF m 10 #[.val (.int x), .val (.int y), .val (.long q), .second, .unset, .unset, .unset, .unset] [(.long x.toInt64), (.long q)]))
    refine OwnGo.fwd (fun tq' kq' => XS.lsub X0.here hx rfl (hb hby d5_10) rfl kq') ?_
    show OwnGo _ _ _ _ (s₁.setTop (mkF m 11 #[.val (.int x), .val (.int y), .val (.long q), .second, .unset, .unset, .unset, .unset] [(.long (q - x.toInt64))]))
    refine OwnGo.fwd (fun tq' kq' => XS.lstore X0.here hx rfl (hb hby d5_11) rfl (l' := #[.val (.int x), .val (.int y), .val (.long q), .second, .val (.long (q - x.toInt64)), .second, .unset, .unset]) rfl kq') ?_
    show OwnGo _ _ _ _ (s₁.setTop (mkF m 13 #[.val (.int x), .val (.int y), .val (.long q), .second, .val (.long (q - x.toInt64)), .second, .unset, .unset] []))
    refine OwnGo.fwd (fun tq' kq' => XS.iloadN X0.here hx rfl (hb hby d5_13) rfl kq') ?_
    show OwnGo _ _ _ _ (s₁.setTop (mkF m 14 #[.val (.int x), .val (.int y), .val (.long q), .second, .val (.long (q - x.toInt64)), .second, .unset, .unset] [(.int y)]))
    refine OwnGo.fwd (fun tq' kq' => XS.i2l X0.here hx rfl (hb hby d5_14) rfl kq') ?_
    show OwnGo _ _ _ _ (s₁.setTop (mkF m 15 #[.val (.int x), .val (.int y), .val (.long q), .second, .val (.long (q - x.toInt64)), .second, .unset, .unset] [(.long y.toInt64)]))
    refine OwnGo.fwd (fun tq' kq' => XS.iloadN X0.here hx rfl (hb hby d5_15) rfl kq') ?_
    show OwnGo _ _ _ _ (s₁.setTop (mkF m 16 #[.val (.int x), .val (.int y), .val (.long q), .second, .val (.long (q - x.toInt64)), .second, .unset, .unset] [(.int x), (.long y.toInt64)]))
    refine OwnGo.fwd (fun tq' kq' => XS.i2l X0.here hx rfl (hb hby d5_16) rfl kq') ?_
    show OwnGo _ _ _ _ (s₁.setTop (mkF m 17 #[.val (.int x), .val (.int y), .val (.long q), .second, .val (.long (q - x.toInt64)), .second, .unset, .unset] [(.long x.toInt64), (.long y.toInt64)]))
    refine OwnGo.fwd (fun tq' kq' => XS.lsub X0.here hx rfl (hb hby d5_17) rfl kq') ?_
    show OwnGo _ _ _ _ (s₁.setTop (mkF m 18 #[.val (.int x), .val (.int y), .val (.long q), .second, .val (.long (q - x.toInt64)), .second, .unset, .unset] [(.long (y.toInt64 - x.toInt64))]))
    refine OwnGo.fwd (fun tq' kq' => XS.lstore X0.here hx rfl (hb hby d5_18) rfl (l' := #[.val (.int x), .val (.int y), .val (.long q), .second, .val (.long (q - x.toInt64)), .second, .val (.long (y.toInt64 - x.toInt64)), .second]) rfl kq') ?_
    show OwnGo _ _ _ _ (s₁.setTop (mkF m 20 #[.val (.int x), .val (.int y), .val (.long q), .second, .val (.long (q - x.toInt64)), .second, .val (.long (y.toInt64 - x.toInt64)), .second] []))
    refine OwnGo.fwd (fun tq' kq' => XS.lload X0.here hx rfl (hb hby d5_20) rfl kq') ?_
    show OwnGo _ _ _ _ (s₁.setTop (mkF m 22 #[.val (.int x), .val (.int y), .val (.long q), .second, .val (.long (q - x.toInt64)), .second, .val (.long (y.toInt64 - x.toInt64)), .second] [(.long (q - x.toInt64))]))
    refine OwnGo.fwd (fun tq' kq' => X0.ldc2Long hx hown (mvT hZ (hw _ (List.mem_of_getElem? (i := 28) rfl))) (g := (mkF m 22 #[.val (.int x), .val (.int y), .val (.long q), .second, .val (.long (q - x.toInt64)), .second, .val (.long (y.toInt64 - x.toInt64)), .second] [(.long (q - x.toInt64))])) rfl (hb hby d5_22) tq' kq') ?_
    show OwnGo _ _ _ _ (s₁.setTop (mkF m 25 #[.val (.int x), .val (.int y), .val (.long q), .second, .val (.long (q - x.toInt64)), .second, .val (.long (y.toInt64 - x.toInt64)), .second] [(.long (-9223372036854775808 : Int64)), (.long (q - x.toInt64))]))
    refine OwnGo.fwd (fun tq' kq' => XS.lxor X0.here hx rfl (hb hby d5_25) rfl kq') ?_
    show OwnGo _ _ _ _ (s₁.setTop (mkF m 26 #[.val (.int x), .val (.int y), .val (.long q), .second, .val (.long (q - x.toInt64)), .second, .val (.long (y.toInt64 - x.toInt64)), .second] [(.long ((q - x.toInt64) ^^^ (-9223372036854775808 : Int64)))]))
    refine OwnGo.fwd (fun tq' kq' => XS.lload X0.here hx rfl (hb hby d5_26) rfl kq') ?_
    show OwnGo _ _ _ _ (s₁.setTop (mkF m 28 #[.val (.int x), .val (.int y), .val (.long q), .second, .val (.long (q - x.toInt64)), .second, .val (.long (y.toInt64 - x.toInt64)), .second] [(.long (y.toInt64 - x.toInt64)), (.long ((q - x.toInt64) ^^^ (-9223372036854775808 : Int64)))]))
    refine OwnGo.fwd (fun tq' kq' => X0.ldc2Long hx hown (mvT hZ (hw _ (List.mem_of_getElem? (i := 28) rfl))) (g := (mkF m 28 #[.val (.int x), .val (.int y), .val (.long q), .second, .val (.long (q - x.toInt64)), .second, .val (.long (y.toInt64 - x.toInt64)), .second] [(.long (y.toInt64 - x.toInt64)), (.long ((q - x.toInt64) ^^^ (-9223372036854775808 : Int64)))])) rfl (hb hby d5_28) tq' kq') ?_
    show OwnGo _ _ _ _ (s₁.setTop (mkF m 31 #[.val (.int x), .val (.int y), .val (.long q), .second, .val (.long (q - x.toInt64)), .second, .val (.long (y.toInt64 - x.toInt64)), .second] [(.long (-9223372036854775808 : Int64)), (.long (y.toInt64 - x.toInt64)), (.long ((q - x.toInt64) ^^^ (-9223372036854775808 : Int64)))]))
    refine OwnGo.fwd (fun tq' kq' => XS.lxor X0.here hx rfl (hb hby d5_31) rfl kq') ?_
    show OwnGo _ _ _ _ (s₁.setTop (mkF m 32 #[.val (.int x), .val (.int y), .val (.long q), .second, .val (.long (q - x.toInt64)), .second, .val (.long (y.toInt64 - x.toInt64)), .second] [(.long ((y.toInt64 - x.toInt64) ^^^ (-9223372036854775808 : Int64))), (.long ((q - x.toInt64) ^^^ (-9223372036854775808 : Int64)))]))
    have m1 := own_xm (q - x.toInt64)
    have m2 := own_xm (y.toInt64 - x.toInt64)
    have c1 := c_lsub q x.toInt64
    have c2 := c_lsub y.toInt64 x.toInt64
    have i1 := c_i2l x
    have i2 := c_i2l y
    have r1 := rng64 q
    have r2 := rng32 x
    have r3 := rng32 y
    have r4 := rng64 (q - x.toInt64)
    have r5 := rng64 (y.toInt64 - x.toInt64)
    refine OwnGo.fwd (fun tq' kq' => XS.lcmp X0.here hx rfl (hb hby d5_32) rfl kq') ?_
    show OwnGo _ _ _ _ (s₁.setTop (mkF m 33 #[.val (.int x), .val (.int y), .val (.long q), .second, .val (.long (q - x.toInt64)), .second, .val (.long (y.toInt64 - x.toInt64)), .second] [(.int (lcmpW ((q - x.toInt64) ^^^ (-9223372036854775808 : Int64)) ((y.toInt64 - x.toInt64) ^^^ (-9223372036854775808 : Int64))))]))
    by_cases hc33_2 : ((y.toInt64 - x.toInt64) ^^^ (-9223372036854775808 : Int64)).toInt < ((q - x.toInt64) ^^^ (-9223372036854775808 : Int64)).toInt
    · refine OwnGo.fwd (fun tq' kq' => XS.ifYes X0.here hx rfl (pc0 := 33) (pc' := 40) rfl (hb hby d5_33) rfl (own_Lgt rfl rfl hc33_2).1 (by decide) (by decide) kq') ?_
      show OwnGo _ _ _ _ (s₁.setTop (mkF m 40 #[.val (.int x), .val (.int y), .val (.long q), .second, .val (.long (q - x.toInt64)), .second, .val (.long (y.toInt64 - x.toInt64)), .second] []))
      refine OwnGo.fwd (fun tq' kq' => XS.iconst X0.here hx rfl (hb hby d5_40) kq') ?_
      show OwnGo _ _ _ _ (s₁.setTop (mkF m 41 #[.val (.int x), .val (.int y), .val (.long q), .second, .val (.long (q - x.toInt64)), .second, .val (.long (y.toInt64 - x.toInt64)), .second] [(.int (0 : Int32))]))
      exact own_retZ X0 hlk hx Bd.returns (hb hby d5_41) (by decide) (by decide) e0 ⟨by rw [own_ct0 (fun u => by have := u.1; have := u.2; split at m1 <;> split at m2 <;> omega)]; rfl, N, rfl⟩
    · refine OwnGo.fwd (fun tq' kq' => XS.ifNo X0.here hx rfl (hb hby d5_33) rfl (own_Lngt rfl rfl hc33_2).1 kq') ?_
      show OwnGo _ _ _ _ (s₁.setTop (mkF m 36 #[.val (.int x), .val (.int y), .val (.long q), .second, .val (.long (q - x.toInt64)), .second, .val (.long (y.toInt64 - x.toInt64)), .second] []))
      refine OwnGo.fwd (fun tq' kq' => XS.iconst X0.here hx rfl (hb hby d5_36) kq') ?_
      show OwnGo _ _ _ _ (s₁.setTop (mkF m 37 #[.val (.int x), .val (.int y), .val (.long q), .second, .val (.long (q - x.toInt64)), .second, .val (.long (y.toInt64 - x.toInt64)), .second] [(.int (1 : Int32))]))
      refine OwnGo.fwd (fun tq' kq' => XS.goto X0.here hx rfl (pc0 := 37) (pc' := 41) rfl (hb hby d5_37) (by decide) (by decide) kq') ?_
      show OwnGo _ _ _ _ (s₁.setTop (mkF m 41 #[.val (.int x), .val (.int y), .val (.long q), .second, .val (.long (q - x.toInt64)), .second, .val (.long (y.toInt64 - x.toInt64)), .second] [(.int (1 : Int32))]))
      exact own_retZ X0 hlk hx Bd.returns (hb hby d5_41) (by decide) (by decide) e0 ⟨by rw [own_ct1 ⟨by split at m1 <;> split at m2 <;> omega, by split at m1 <;> split at m2 <;> omega⟩]; rfl, N, rfl⟩
theorem pn_0 : plainName "com/example/cerrojo/cerrojo/RangeContainsPinLaw" = true := by first | (simp [plainName, overriddenIn]; done) | decide +kernel
theorem ef_0 (m : MethodId) (x0 : Int32) (x1 : Int32) (x2 : Int64) (x3 : Int32) : entryFrame m #[(.int x0), (.int x1), (.long x2), (.int x3)] maxLocals = mkF m 0 #[.val (.int x0), .val (.int x1), .val (.long x2), .second, .val (.int x3), .unset, .unset, .unset, .unset, .unset, .unset, .unset, .unset] [] := by first | (simp [entryFrame, mkF, argsToLocals, Value.category, maxLocals]; done) | rfl
def Q0 (Z : State) (p1 : Int32) (p2 : Int32) (q3 : Int64) (p4 : Int32) (h0 : Heap) (n0 : Nat) (v : Option Value) (h : Heap) (L : List Loc) : Prop := v = some (.int 1) ∧ Fr n0 L
set_option maxRecDepth 65536 in
set_option maxHeartbeats 40000000 in
theorem rm0 (l : Launch) (Z : State) (a0 : Array Value) (hw : ∀ d ∈ tables_1, d.before a0 Z = true) (ws : List Jvm.Cond) (p1 : Int32) (p2 : Int32) (q3 : Int64) (p4 : Int32) (h0 : Heap) (n0 : Nat) (Z0 : n0 ≤ h0.size) :
    MetFree l x (head1 (Jvm.Cond.code x code maxLocals ret :: ws) room_1) (fun arr' U => arr' = #[(.int p1), (.int p2), (.long q3), (.int p4)] ∧ Z.Warmed39 U.vm ∧ U.heap = h0) (fun _ _ _ _ _ => True) (fun _ U o U' => ∃ v L, o = .returned v ∧ (Q0 Z p1 p2 q3 p4 h0 n0) v U'.heap L ∧ FrameEnd U o U' L room_1.cells room_1.slots) := by
  refine MetFree.of_bodySF (plainFor_of_name pn_0) hisR ?_
  intro p e s m args below meth c s₁ Bd hml0 hP hK
  obtain ⟨rfl, hZ, hh⟩ := hP
  have hx := Bd.exec
  have hby := Bd.bytes
  have hlk : meth.locks = false := BodyLoose.notSynchronized Bd
  have hml : c.maxLocals = 13 := hml0
  have hown : s.vm.findClass "com/example/cerrojo/cerrojo/RangeContainsPinLaw" = some m.cls := findClass_of_methodNamed Bd.named
  have hnm := (name_of_methodNamed Bd.named Bd.method).1
  have X0 : Stand p l e room_1 s m #[(.int p1), (.int p2), (.long q3), (.int p4)] below meth c s₁ [] 0 0 := Stand.of_body Bd
  have e0 : s₁.heap = h0 := by rw [← hh, Bd.state]; rfl
  have N := Fr.nil n0
  have Zs := Z0
  change OwnGo p.tables e below (OwnEnd s (Q0 Z p1 p2 q3 p4 h0 n0) room_1.cells room_1.slots) _
  refine OwnGo.fwd (fun tq' kq' => castTop (ef_0 m p1 p2 q3 p4) kq') ?_
  show OwnGo _ _ _ _ (s₁.setTop (mkF m 0 #[.val (.int p1), .val (.int p2), .val (.long q3), .second, .val (.int p4), .unset, .unset, .unset, .unset, .unset, .unset, .unset, .unset] []))
  obtain ⟨T1, h1, X1, e1, E1, A1, D1, -, st1⟩ := newO X0 hx hZ hown (hw _ (List.mem_of_getElem? (i := 0) rfl)) (hw _ (List.mem_of_getElem? (i := 1) rfl)) (hw _ (List.mem_of_getElem? (i := 2) rfl)) e0 (g := (mkF m 0 #[.val (.int p1), .val (.int p2), .val (.long q3), .second, .val (.int p4), .unset, .unset, .unset, .unset, .unset, .unset, .unset, .unset] [])) rfl (hb hby at_0) (by decide) (by decide)
  obtain ⟨b1, g1⟩ : ∃ z, z = h0.size := ⟨_, rfl⟩
  rw [← g1] at A1 D1 st1
  have g_b1 : n0 ≤ b1 := Nat.le_trans Zs (Nat.le_of_eq g1.symm)
  have Zs := Nat.le_trans Zs E1.1
  have E_b1 := A1
  have F_low_b1 : Fld Z h1 b1 "com/example/cerrojo/cerrojo/Range" "low" "I" (.int (0 : Int32)) := D1 (Or.inr (hw _ (List.mem_of_getElem? (i := 15) rfl))) (ty := .int) (by decide)
  have F_high_b1 : Fld Z h1 b1 "com/example/cerrojo/cerrojo/Range" "high" "I" (.int (0 : Int32)) := D1 (Or.inr (hw _ (List.mem_of_getElem? (i := 17) rfl))) (ty := .int) (by decide)
  refine OwnGo.fwd st1 ?_
  show OwnGo _ _ _ _ (T1.setTop (mkF m 3 #[.val (.int p1), .val (.int p2), .val (.long q3), .second, .val (.int p4), .unset, .unset, .unset, .unset, .unset, .unset, .unset, .unset] [(.ref b1)]))
  refine OwnGo.fwd (fun tq' kq' => XS.dup X1.here hx rfl (hb hby at_3) rfl rfl kq') ?_
  show OwnGo _ _ _ _ (T1.setTop (mkF m 4 #[.val (.int p1), .val (.int p2), .val (.long q3), .second, .val (.int p4), .unset, .unset, .unset, .unset, .unset, .unset, .unset, .unset] [(.ref b1), (.ref b1)]))
  refine OwnGo.fwd (fun tq' kq' => XS.iloadN X1.here hx rfl (hb hby at_4) rfl kq') ?_
  show OwnGo _ _ _ _ (T1.setTop (mkF m 5 #[.val (.int p1), .val (.int p2), .val (.long q3), .second, .val (.int p4), .unset, .unset, .unset, .unset, .unset, .unset, .unset, .unset] [(.int p1), (.ref b1), (.ref b1)]))
  refine OwnGo.fwd (fun tq' kq' => XS.iloadN X1.here hx rfl (hb hby at_5) rfl kq') ?_
  show OwnGo _ _ _ _ (T1.setTop (mkF m 6 #[.val (.int p1), .val (.int p2), .val (.long q3), .second, .val (.int p4), .unset, .unset, .unset, .unset, .unset, .unset, .unset, .unset] [(.int p2), (.int p1), (.ref b1), (.ref b1)]))
  obtain ⟨_, _, ⟨T2, L2, k2, n2⟩, -, X2, ⟨Lc2, hQ2, l2, y2, z2⟩, st2⟩ := X1.specialBack hx (y := (⟨"com/example/cerrojo/cerrojo/Range", "<init>", "(II)V"⟩ : MethodName)) rfl hown (mvT hZ (hw _ (List.mem_of_getElem? (i := 3) rfl))) (mvT hZ (hw _ (List.mem_of_getElem? (i := 4) rfl))) (mvT hZ (hw _ (List.mem_of_getElem? (i := 5) rfl))) (by decide) (backOf (W := 1) (rm1 l Z a0 hw [] b1 p1 p2 h1 n0 Zs E_b1 F_low_b1 F_high_b1 g_b1) hZ (hw _ (List.mem_of_getElem? (i := 5) rfl)) (hw _ (List.mem_of_getElem? (i := 2) rfl)) (by decide) (by decide)) (g := (mkF m 6 #[.val (.int p1), .val (.int p2), .val (.long q3), .second, .val (.int p4), .unset, .unset, .unset, .unset, .unset, .unset, .unset, .unset] [(.int p2), (.int p1), (.ref b1), (.ref b1)])) rfl (by rw [hml]; rfl) (Steps.refl _) (a := b1) (argsL := [(.int p1), (.int p2)]) (rest := [(.ref b1)]) (lenOf pd_0 rfl) rfl (by show 2 * 0 + _ ≤ _; exact Nat.le_of_eq rfl) (hb hby at_6) (fun _ _ => ⟨rfl, e1, (by decide : 1 + 0 ≤ _), (by decide : 2 + 0 ≤ _)⟩)
  dsimp only [Pt.U, Pt.locs, Pt.cells, Pt.slots] at X2 l2 y2 z2 st2 hQ2
  subst l2 y2 z2
  obtain ⟨h2, eh2⟩ : ∃ z, z = T2.heap := ⟨_, rfl⟩
  rw [← eh2] at hQ2
  obtain ⟨rfl, N2q, K2, E_b1, F_low_b1, F_high_b1⟩ := hQ2
  have N := Fr.app N N2q
  have Zs := Nat.le_trans Zs K2.1
  refine OwnGo.thru st2 ?_
  show OwnGo _ _ _ _ (T2.setTop (mkF m 9 #[.val (.int p1), .val (.int p2), .val (.long q3), .second, .val (.int p4), .unset, .unset, .unset, .unset, .unset, .unset, .unset, .unset] [(.ref b1)]))
  refine OwnGo.fwd (fun tq' kq' => XS.astore X2.here hx rfl (hb hby at_9) rfl rfl (l' := #[.val (.int p1), .val (.int p2), .val (.long q3), .second, .val (.int p4), .val (.ref b1), .unset, .unset, .unset, .unset, .unset, .unset, .unset]) rfl kq') ?_
  show OwnGo _ _ _ _ (T2.setTop (mkF m 11 #[.val (.int p1), .val (.int p2), .val (.long q3), .second, .val (.int p4), .val (.ref b1), .unset, .unset, .unset, .unset, .unset, .unset, .unset] []))
  refine OwnGo.fwd (fun tq' kq' => XS.iload X2.here hx rfl (hb hby at_11) rfl kq') ?_
  show OwnGo _ _ _ _ (T2.setTop (mkF m 13 #[.val (.int p1), .val (.int p2), .val (.long q3), .second, .val (.int p4), .val (.ref b1), .unset, .unset, .unset, .unset, .unset, .unset, .unset] [(.int p4)]))
  refine OwnGo.fwd (fun tq' kq' => X2.ldcInt hx hown (mvT hZ (hw _ (List.mem_of_getElem? (i := 18) rfl))) (g := (mkF m 13 #[.val (.int p1), .val (.int p2), .val (.long q3), .second, .val (.int p4), .val (.ref b1), .unset, .unset, .unset, .unset, .unset, .unset, .unset] [(.int p4)])) rfl (hb hby at_13) tq' kq') ?_
  show OwnGo _ _ _ _ (T2.setTop (mkF m 15 #[.val (.int p1), .val (.int p2), .val (.long q3), .second, .val (.int p4), .val (.ref b1), .unset, .unset, .unset, .unset, .unset, .unset, .unset] [(.int (2147483647 : Int32)), (.int p4)]))
  refine OwnGo.fwd (fun tq' kq' => XS.iand X2.here hx rfl (hb hby at_15) rfl kq') ?_
  show OwnGo _ _ _ _ (T2.setTop (mkF m 16 #[.val (.int p1), .val (.int p2), .val (.long q3), .second, .val (.int p4), .val (.ref b1), .unset, .unset, .unset, .unset, .unset, .unset, .unset] [(.int (p4 &&& (2147483647 : Int32)))]))
  refine OwnGo.fwd (fun tq' kq' => XS.iconst X2.here hx rfl (hb hby at_16) kq') ?_
  show OwnGo _ _ _ _ (T2.setTop (mkF m 17 #[.val (.int p1), .val (.int p2), .val (.long q3), .second, .val (.int p4), .val (.ref b1), .unset, .unset, .unset, .unset, .unset, .unset, .unset] [(.int (3 : Int32)), (.int (p4 &&& (2147483647 : Int32)))]))
  refine OwnGo.fwd (fun tq' kq' => iremM X2 hx rfl (hb hby at_17) rfl (by decide) kq') ?_
  show OwnGo _ _ _ _ (T2.setTop (mkF m 18 #[.val (.int p1), .val (.int p2), .val (.long q3), .second, .val (.int p4), .val (.ref b1), .unset, .unset, .unset, .unset, .unset, .unset, .unset] [(.int ((p4 &&& (2147483647 : Int32)) % (3 : Int32)))]))
  refine OwnGo.fwd (fun tq' kq' => XS.iconst X2.here hx rfl (hb hby at_18) kq') ?_
  show OwnGo _ _ _ _ (T2.setTop (mkF m 19 #[.val (.int p1), .val (.int p2), .val (.long q3), .second, .val (.int p4), .val (.ref b1), .unset, .unset, .unset, .unset, .unset, .unset, .unset] [(.int (1 : Int32)), (.int ((p4 &&& (2147483647 : Int32)) % (3 : Int32)))]))
  refine OwnGo.fwd (fun tq' kq' => XS.isub X2.here hx rfl (hb hby at_19) rfl kq') ?_
  show OwnGo _ _ _ _ (T2.setTop (mkF m 20 #[.val (.int p1), .val (.int p2), .val (.long q3), .second, .val (.int p4), .val (.ref b1), .unset, .unset, .unset, .unset, .unset, .unset, .unset] [(.int (((p4 &&& (2147483647 : Int32)) % (3 : Int32)) - (1 : Int32)))]))
  refine OwnGo.fwd (fun tq' kq' => XS.i2l X2.here hx rfl (hb hby at_20) rfl kq') ?_
  show OwnGo _ _ _ _ (T2.setTop (mkF m 21 #[.val (.int p1), .val (.int p2), .val (.long q3), .second, .val (.int p4), .val (.ref b1), .unset, .unset, .unset, .unset, .unset, .unset, .unset] [(.long (((p4 &&& (2147483647 : Int32)) % (3 : Int32)) - (1 : Int32)).toInt64)]))
  obtain ⟨dd, hv_dd⟩ : ∃ q : Int64, q = (((p4 &&& (2147483647 : Int32)) % (3 : Int32)) - (1 : Int32)).toInt64 := ⟨_, rfl⟩
  rw [← hv_dd]
  show OwnGo _ _ _ _ (T2.setTop (mkF m 21 #[.val (.int p1), .val (.int p2), .val (.long q3), .second, .val (.int p4), .val (.ref b1), .unset, .unset, .unset, .unset, .unset, .unset, .unset] [(.long dd)]))
  refine OwnGo.fwd (fun tq' kq' => XS.lstore X2.here hx rfl (hb hby at_21) rfl (l' := #[.val (.int p1), .val (.int p2), .val (.long q3), .second, .val (.int p4), .val (.ref b1), .val (.long dd), .second, .unset, .unset, .unset, .unset, .unset]) rfl kq') ?_
  show OwnGo _ _ _ _ (T2.setTop (mkF m 23 #[.val (.int p1), .val (.int p2), .val (.long q3), .second, .val (.int p4), .val (.ref b1), .val (.long dd), .second, .unset, .unset, .unset, .unset, .unset] []))
  refine OwnGo.fwd (fun tq' kq' => XS.iloadN X2.here hx rfl (hb hby at_23) rfl kq') ?_
  show OwnGo _ _ _ _ (T2.setTop (mkF m 24 #[.val (.int p1), .val (.int p2), .val (.long q3), .second, .val (.int p4), .val (.ref b1), .val (.long dd), .second, .unset, .unset, .unset, .unset, .unset] [(.int p1)]))
  refine OwnGo.fwd (fun tq' kq' => XS.i2l X2.here hx rfl (hb hby at_24) rfl kq') ?_
  show OwnGo _ _ _ _ (T2.setTop (mkF m 25 #[.val (.int p1), .val (.int p2), .val (.long q3), .second, .val (.int p4), .val (.ref b1), .val (.long dd), .second, .unset, .unset, .unset, .unset, .unset] [(.long p1.toInt64)]))
  refine OwnGo.fwd (fun tq' kq' => XS.lload X2.here hx rfl (hb hby at_25) rfl kq') ?_
  show OwnGo _ _ _ _ (T2.setTop (mkF m 27 #[.val (.int p1), .val (.int p2), .val (.long q3), .second, .val (.int p4), .val (.ref b1), .val (.long dd), .second, .unset, .unset, .unset, .unset, .unset] [(.long dd), (.long p1.toInt64)]))
  refine OwnGo.fwd (fun tq' kq' => XS.ladd X2.here hx rfl (hb hby at_27) rfl kq') ?_
  show OwnGo _ _ _ _ (T2.setTop (mkF m 28 #[.val (.int p1), .val (.int p2), .val (.long q3), .second, .val (.int p4), .val (.ref b1), .val (.long dd), .second, .unset, .unset, .unset, .unset, .unset] [(.long (p1.toInt64 + dd))]))
  obtain ⟨lo, hv_lo⟩ : ∃ q : Int64, q = (p1.toInt64 + dd) := ⟨_, rfl⟩
  rw [← hv_lo]
  show OwnGo _ _ _ _ (T2.setTop (mkF m 28 #[.val (.int p1), .val (.int p2), .val (.long q3), .second, .val (.int p4), .val (.ref b1), .val (.long dd), .second, .unset, .unset, .unset, .unset, .unset] [(.long lo)]))
  refine OwnGo.fwd (fun tq' kq' => XS.lstore X2.here hx rfl (hb hby at_28) rfl (l' := #[.val (.int p1), .val (.int p2), .val (.long q3), .second, .val (.int p4), .val (.ref b1), .val (.long dd), .second, .val (.long lo), .second, .unset, .unset, .unset]) rfl kq') ?_
  show OwnGo _ _ _ _ (T2.setTop (mkF m 30 #[.val (.int p1), .val (.int p2), .val (.long q3), .second, .val (.int p4), .val (.ref b1), .val (.long dd), .second, .val (.long lo), .second, .unset, .unset, .unset] []))
  refine OwnGo.fwd (fun tq' kq' => XS.iloadN X2.here hx rfl (hb hby at_30) rfl kq') ?_
  show OwnGo _ _ _ _ (T2.setTop (mkF m 31 #[.val (.int p1), .val (.int p2), .val (.long q3), .second, .val (.int p4), .val (.ref b1), .val (.long dd), .second, .val (.long lo), .second, .unset, .unset, .unset] [(.int p2)]))
  refine OwnGo.fwd (fun tq' kq' => XS.i2l X2.here hx rfl (hb hby at_31) rfl kq') ?_
  show OwnGo _ _ _ _ (T2.setTop (mkF m 32 #[.val (.int p1), .val (.int p2), .val (.long q3), .second, .val (.int p4), .val (.ref b1), .val (.long dd), .second, .val (.long lo), .second, .unset, .unset, .unset] [(.long p2.toInt64)]))
  refine OwnGo.fwd (fun tq' kq' => XS.lload X2.here hx rfl (hb hby at_32) rfl kq') ?_
  show OwnGo _ _ _ _ (T2.setTop (mkF m 34 #[.val (.int p1), .val (.int p2), .val (.long q3), .second, .val (.int p4), .val (.ref b1), .val (.long dd), .second, .val (.long lo), .second, .unset, .unset, .unset] [(.long dd), (.long p2.toInt64)]))
  refine OwnGo.fwd (fun tq' kq' => XS.ladd X2.here hx rfl (hb hby at_34) rfl kq') ?_
  show OwnGo _ _ _ _ (T2.setTop (mkF m 35 #[.val (.int p1), .val (.int p2), .val (.long q3), .second, .val (.int p4), .val (.ref b1), .val (.long dd), .second, .val (.long lo), .second, .unset, .unset, .unset] [(.long (p2.toInt64 + dd))]))
  obtain ⟨hi, hv_hi⟩ : ∃ q : Int64, q = (p2.toInt64 + dd) := ⟨_, rfl⟩
  rw [← hv_hi]
  show OwnGo _ _ _ _ (T2.setTop (mkF m 35 #[.val (.int p1), .val (.int p2), .val (.long q3), .second, .val (.int p4), .val (.ref b1), .val (.long dd), .second, .val (.long lo), .second, .unset, .unset, .unset] [(.long hi)]))
  refine OwnGo.fwd (fun tq' kq' => XS.lstore X2.here hx rfl (hb hby at_35) rfl (l' := #[.val (.int p1), .val (.int p2), .val (.long q3), .second, .val (.int p4), .val (.ref b1), .val (.long dd), .second, .val (.long lo), .second, .val (.long hi), .second, .unset]) rfl kq') ?_
  show OwnGo _ _ _ _ (T2.setTop (mkF m 37 #[.val (.int p1), .val (.int p2), .val (.long q3), .second, .val (.int p4), .val (.ref b1), .val (.long dd), .second, .val (.long lo), .second, .val (.long hi), .second, .unset] []))
  refine OwnGo.fwd (fun tq' kq' => XS.aload X2.here hx rfl (hb hby at_37) rfl rfl kq') ?_
  show OwnGo _ _ _ _ (T2.setTop (mkF m 39 #[.val (.int p1), .val (.int p2), .val (.long q3), .second, .val (.int p4), .val (.ref b1), .val (.long dd), .second, .val (.long lo), .second, .val (.long hi), .second, .unset] [(.ref b1)]))
  refine OwnGo.fwd (fun tq' kq' => XS.lloadN X2.here hx rfl (hb hby at_39) rfl kq') ?_
  show OwnGo _ _ _ _ (T2.setTop (mkF m 40 #[.val (.int p1), .val (.int p2), .val (.long q3), .second, .val (.int p4), .val (.ref b1), .val (.long dd), .second, .val (.long lo), .second, .val (.long hi), .second, .unset] [(.long q3), (.ref b1)]))
  obtain ⟨cq3, kq3, q3a, q3b, q3c⟩ := isOf hZ eh2.symm E_b1
  obtain ⟨_, _, ⟨T3, L3, k3, n3⟩, -, X3, ⟨Lc3, hQ3, l3, y3, z3⟩, st3⟩ := X2.virtualBack hx (y := (⟨"com/example/cerrojo/cerrojo/Range", "contains", "(J)Z"⟩ : MethodName)) (z := (⟨"com/example/cerrojo/cerrojo/Range", "contains", "(J)Z"⟩ : MethodName)) hown (mvT hZ (hw _ (List.mem_of_getElem? (i := 19) rfl))) (mvT hZ (hw _ (List.mem_of_getElem? (i := 20) rfl))) (notFace_of_selects (args := #[]) (mvT hZ (hw _ (List.mem_of_getElem? (i := 22) rfl)))) (mvT hZ (hw _ (List.mem_of_getElem? (i := 22) rfl))) (mvT hZ (hw _ (List.mem_of_getElem? (i := 21) rfl))) (by decide) (backOf (W := 0) (rm4 l Z a0 hw [] b1 p1 p2 q3 h2 n0 Zs F_low_b1 F_high_b1) hZ (hw _ (List.mem_of_getElem? (i := 23) rfl)) (hw _ (List.mem_of_getElem? (i := 2) rfl)) (by decide) (by decide)) q3a q3c (g := (mkF m 40 #[.val (.int p1), .val (.int p2), .val (.long q3), .second, .val (.int p4), .val (.ref b1), .val (.long dd), .second, .val (.long lo), .second, .val (.long hi), .second, .unset] [(.long q3), (.ref b1)])) rfl (by rw [hml]; rfl) (Steps.refl _) (argsL := [(.long q3)]) (rest := []) (lenOf pd_2 rfl) rfl (by show 2 * 0 + _ ≤ _; exact Nat.le_of_eq rfl) (hb hby at_40) (fun _ _ => ⟨rfl, eh2.symm, (by decide : 1 + 0 ≤ _), (by decide : 2 + 0 ≤ _)⟩)
  dsimp only [Pt.U, Pt.locs, Pt.cells, Pt.slots] at X3 l3 y3 z3 st3 hQ3
  subst l3 y3 z3
  obtain ⟨rfl, N3q, e3⟩ := hQ3
  have N := Fr.app N N3q
  refine OwnGo.thru st3 ?_
  show OwnGo _ _ _ _ (T3.setTop (mkF m 43 #[.val (.int p1), .val (.int p2), .val (.long q3), .second, .val (.int p4), .val (.ref b1), .val (.long dd), .second, .val (.long lo), .second, .val (.long hi), .second, .unset] [(.int (own_ct p1 p2 q3))]))
  refine OwnGo.fwd (fun tq' kq' => XS.iloadN X3.here hx rfl (hb hby at_43) rfl kq') ?_
  show OwnGo _ _ _ _ (T3.setTop (mkF m 44 #[.val (.int p1), .val (.int p2), .val (.long q3), .second, .val (.int p4), .val (.ref b1), .val (.long dd), .second, .val (.long lo), .second, .val (.long hi), .second, .unset] [(.int p1), (.int (own_ct p1 p2 q3))]))
  refine OwnGo.fwd (fun tq' kq' => XS.iloadN X3.here hx rfl (hb hby at_44) rfl kq') ?_
  show OwnGo _ _ _ _ (T3.setTop (mkF m 45 #[.val (.int p1), .val (.int p2), .val (.long q3), .second, .val (.int p4), .val (.ref b1), .val (.long dd), .second, .val (.long lo), .second, .val (.long hi), .second, .unset] [(.int p2), (.int p1), (.int (own_ct p1 p2 q3))]))
  refine OwnGo.fwd (fun tq' kq' => XS.lloadN X3.here hx rfl (hb hby at_45) rfl kq') ?_
  show OwnGo _ _ _ _ (T3.setTop (mkF m 46 #[.val (.int p1), .val (.int p2), .val (.long q3), .second, .val (.int p4), .val (.ref b1), .val (.long dd), .second, .val (.long lo), .second, .val (.long hi), .second, .unset] [(.long q3), (.int p2), (.int p1), (.int (own_ct p1 p2 q3))]))
  obtain ⟨_, _, ⟨T4, L4, k4, n4⟩, -, X4, ⟨Lc4, hQ4, l4, y4, z4⟩, st4⟩ := Jvm.LawKit.callS X3 hx (y := (⟨"com/example/cerrojo/cerrojo/RangeContainsPinLaw", "ref", "(IIJ)Z"⟩ : MethodName)) hown (mvT hZ (hw _ (List.mem_of_getElem? (i := 24) rfl))) (mvT hZ (hw _ (List.mem_of_getElem? (i := 25) rfl))) (mvT hZ (hw _ (List.mem_of_getElem? (i := 26) rfl))) (mvT hZ (hw _ (List.mem_of_getElem? (i := 27) rfl))) (by decide) (backOf (W := 1) (rm5 l Z a0 hw [] p1 p2 q3 h2 n0 Zs) hZ (hw _ (List.mem_of_getElem? (i := 27) rfl)) (hw _ (List.mem_of_getElem? (i := 26) rfl)) (by decide) (by decide)) (g := (mkF m 46 #[.val (.int p1), .val (.int p2), .val (.long q3), .second, .val (.int p4), .val (.ref b1), .val (.long dd), .second, .val (.long lo), .second, .val (.long hi), .second, .unset] [(.long q3), (.int p2), (.int p1), (.int (own_ct p1 p2 q3))])) rfl (by rw [hml]; rfl) (argsL := [(.int p1), (.int p2), (.long q3)]) (rest := [(.int (own_ct p1 p2 q3))]) (lenOf pd_3 rfl) rfl (by show 2 * 0 + _ ≤ _; exact Nat.le_of_eq rfl) (hb hby at_46) (fun _ _ => ⟨rfl, e3, (by decide : 1 + 0 ≤ _), (by decide : 2 + 0 ≤ _)⟩)
  dsimp only [Pt.U, Pt.locs, Pt.cells, Pt.slots] at X4 l4 y4 z4 st4 hQ4
  subst l4 y4 z4
  obtain ⟨rfl, N4q, e4⟩ := hQ4
  have N := Fr.app N N4q
  refine OwnGo.fwd st4 ?_
  show OwnGo _ _ _ _ (T4.setTop (mkF m 49 #[.val (.int p1), .val (.int p2), .val (.long q3), .second, .val (.int p4), .val (.ref b1), .val (.long dd), .second, .val (.long lo), .second, .val (.long hi), .second, .unset] [(.int (own_ct p1 p2 q3)), (.int (own_ct p1 p2 q3))]))
  have hc49_5 : (own_ct p1 p2 q3).toInt = (own_ct p1 p2 q3).toInt := rfl
  refine OwnGo.fwd (fun tq' kq' => XS.icmpNo X4.here hx rfl (hb hby at_49) rfl (own_beq rfl rfl hc49_5).2 kq') ?_
  show OwnGo _ _ _ _ (T4.setTop (mkF m 52 #[.val (.int p1), .val (.int p2), .val (.long q3), .second, .val (.int p4), .val (.ref b1), .val (.long dd), .second, .val (.long lo), .second, .val (.long hi), .second, .unset] []))
  refine OwnGo.fwd (fun tq' kq' => XS.iconst X4.here hx rfl (hb hby at_52) kq') ?_
  show OwnGo _ _ _ _ (T4.setTop (mkF m 53 #[.val (.int p1), .val (.int p2), .val (.long q3), .second, .val (.int p4), .val (.ref b1), .val (.long dd), .second, .val (.long lo), .second, .val (.long hi), .second, .unset] [(.int (1 : Int32))]))
  refine OwnGo.fwd (fun tq' kq' => XS.goto X4.here hx rfl (pc0 := 53) (pc' := 57) rfl (hb hby at_53) (by decide) (by decide) kq') ?_
  show OwnGo _ _ _ _ (T4.setTop (mkF m 57 #[.val (.int p1), .val (.int p2), .val (.long q3), .second, .val (.int p4), .val (.ref b1), .val (.long dd), .second, .val (.long lo), .second, .val (.long hi), .second, .unset] [(.int (1 : Int32))]))
  refine OwnGo.fwd (fun tq' kq' => XS.istore X4.here hx rfl (hb hby at_57) rfl (l' := #[.val (.int p1), .val (.int p2), .val (.long q3), .second, .val (.int p4), .val (.ref b1), .val (.long dd), .second, .val (.long lo), .second, .val (.long hi), .second, .val (.int (1 : Int32))]) rfl kq') ?_
  show OwnGo _ _ _ _ (T4.setTop (mkF m 59 #[.val (.int p1), .val (.int p2), .val (.long q3), .second, .val (.int p4), .val (.ref b1), .val (.long dd), .second, .val (.long lo), .second, .val (.long hi), .second, .val (.int (1 : Int32))] []))
  refine OwnGo.fwd (fun tq' kq' => XS.iload X4.here hx rfl (hb hby at_59) rfl kq') ?_
  show OwnGo _ _ _ _ (T4.setTop (mkF m 61 #[.val (.int p1), .val (.int p2), .val (.long q3), .second, .val (.int p4), .val (.ref b1), .val (.long dd), .second, .val (.long lo), .second, .val (.long hi), .second, .val (.int (1 : Int32))] [(.int (1 : Int32))]))
  have hc61_6 : ¬ ((1 : Int) = (0 : Int)) := by decide
  refine OwnGo.fwd (fun tq' kq' => XS.ifNo X4.here hx rfl (hb hby at_61) rfl ((if0 _ _).trans (own_bneq (by decide) (by decide) hc61_6).1) kq') ?_
  show OwnGo _ _ _ _ (T4.setTop (mkF m 64 #[.val (.int p1), .val (.int p2), .val (.long q3), .second, .val (.int p4), .val (.ref b1), .val (.long dd), .second, .val (.long lo), .second, .val (.long hi), .second, .val (.int (1 : Int32))] []))
  refine OwnGo.fwd (fun tq' kq' => XS.aload X4.here hx rfl (hb hby at_64) rfl rfl kq') ?_
  show OwnGo _ _ _ _ (T4.setTop (mkF m 66 #[.val (.int p1), .val (.int p2), .val (.long q3), .second, .val (.int p4), .val (.ref b1), .val (.long dd), .second, .val (.long lo), .second, .val (.long hi), .second, .val (.int (1 : Int32))] [(.ref b1)]))
  refine OwnGo.fwd (fun tq' kq' => XS.lload X4.here hx rfl (hb hby at_66) rfl kq') ?_
  show OwnGo _ _ _ _ (T4.setTop (mkF m 68 #[.val (.int p1), .val (.int p2), .val (.long q3), .second, .val (.int p4), .val (.ref b1), .val (.long dd), .second, .val (.long lo), .second, .val (.long hi), .second, .val (.int (1 : Int32))] [(.long lo), (.ref b1)]))
  obtain ⟨cq7, kq7, q7a, q7b, q7c⟩ := isOf hZ e4 E_b1
  obtain ⟨_, _, ⟨T7, L7, k7, n7⟩, -, X7, ⟨Lc7, hQ7, l7, y7, z7⟩, st7⟩ := X4.virtualBack hx (y := (⟨"com/example/cerrojo/cerrojo/Range", "contains", "(J)Z"⟩ : MethodName)) (z := (⟨"com/example/cerrojo/cerrojo/Range", "contains", "(J)Z"⟩ : MethodName)) hown (mvT hZ (hw _ (List.mem_of_getElem? (i := 19) rfl))) (mvT hZ (hw _ (List.mem_of_getElem? (i := 20) rfl))) (notFace_of_selects (args := #[]) (mvT hZ (hw _ (List.mem_of_getElem? (i := 22) rfl)))) (mvT hZ (hw _ (List.mem_of_getElem? (i := 22) rfl))) (mvT hZ (hw _ (List.mem_of_getElem? (i := 21) rfl))) (by decide) (backOf (W := 0) (rm4 l Z a0 hw [] b1 p1 p2 lo h2 n0 Zs F_low_b1 F_high_b1) hZ (hw _ (List.mem_of_getElem? (i := 23) rfl)) (hw _ (List.mem_of_getElem? (i := 2) rfl)) (by decide) (by decide)) q7a q7c (g := (mkF m 68 #[.val (.int p1), .val (.int p2), .val (.long q3), .second, .val (.int p4), .val (.ref b1), .val (.long dd), .second, .val (.long lo), .second, .val (.long hi), .second, .val (.int (1 : Int32))] [(.long lo), (.ref b1)])) rfl (by rw [hml]; rfl) (Steps.refl _) (argsL := [(.long lo)]) (rest := []) (lenOf pd_2 rfl) rfl (by show 2 * 0 + _ ≤ _; exact Nat.le_of_eq rfl) (hb hby at_68) (fun _ _ => ⟨rfl, e4, (by decide : 1 + 0 ≤ _), (by decide : 2 + 0 ≤ _)⟩)
  dsimp only [Pt.U, Pt.locs, Pt.cells, Pt.slots] at X7 l7 y7 z7 st7 hQ7
  subst l7 y7 z7
  obtain ⟨rfl, N7q, e7⟩ := hQ7
  have N := Fr.app N N7q
  refine OwnGo.thru st7 ?_
  show OwnGo _ _ _ _ (T7.setTop (mkF m 71 #[.val (.int p1), .val (.int p2), .val (.long q3), .second, .val (.int p4), .val (.ref b1), .val (.long dd), .second, .val (.long lo), .second, .val (.long hi), .second, .val (.int (1 : Int32))] [(.int (own_ct p1 p2 lo))]))
  refine OwnGo.fwd (fun tq' kq' => XS.iloadN X7.here hx rfl (hb hby at_71) rfl kq') ?_
  show OwnGo _ _ _ _ (T7.setTop (mkF m 72 #[.val (.int p1), .val (.int p2), .val (.long q3), .second, .val (.int p4), .val (.ref b1), .val (.long dd), .second, .val (.long lo), .second, .val (.long hi), .second, .val (.int (1 : Int32))] [(.int p1), (.int (own_ct p1 p2 lo))]))
  refine OwnGo.fwd (fun tq' kq' => XS.iloadN X7.here hx rfl (hb hby at_72) rfl kq') ?_
  show OwnGo _ _ _ _ (T7.setTop (mkF m 73 #[.val (.int p1), .val (.int p2), .val (.long q3), .second, .val (.int p4), .val (.ref b1), .val (.long dd), .second, .val (.long lo), .second, .val (.long hi), .second, .val (.int (1 : Int32))] [(.int p2), (.int p1), (.int (own_ct p1 p2 lo))]))
  refine OwnGo.fwd (fun tq' kq' => XS.lload X7.here hx rfl (hb hby at_73) rfl kq') ?_
  show OwnGo _ _ _ _ (T7.setTop (mkF m 75 #[.val (.int p1), .val (.int p2), .val (.long q3), .second, .val (.int p4), .val (.ref b1), .val (.long dd), .second, .val (.long lo), .second, .val (.long hi), .second, .val (.int (1 : Int32))] [(.long lo), (.int p2), (.int p1), (.int (own_ct p1 p2 lo))]))
  obtain ⟨_, _, ⟨T8, L8, k8, n8⟩, -, X8, ⟨Lc8, hQ8, l8, y8, z8⟩, st8⟩ := Jvm.LawKit.callS X7 hx (y := (⟨"com/example/cerrojo/cerrojo/RangeContainsPinLaw", "ref", "(IIJ)Z"⟩ : MethodName)) hown (mvT hZ (hw _ (List.mem_of_getElem? (i := 24) rfl))) (mvT hZ (hw _ (List.mem_of_getElem? (i := 25) rfl))) (mvT hZ (hw _ (List.mem_of_getElem? (i := 26) rfl))) (mvT hZ (hw _ (List.mem_of_getElem? (i := 27) rfl))) (by decide) (backOf (W := 1) (rm5 l Z a0 hw [] p1 p2 lo h2 n0 Zs) hZ (hw _ (List.mem_of_getElem? (i := 27) rfl)) (hw _ (List.mem_of_getElem? (i := 26) rfl)) (by decide) (by decide)) (g := (mkF m 75 #[.val (.int p1), .val (.int p2), .val (.long q3), .second, .val (.int p4), .val (.ref b1), .val (.long dd), .second, .val (.long lo), .second, .val (.long hi), .second, .val (.int (1 : Int32))] [(.long lo), (.int p2), (.int p1), (.int (own_ct p1 p2 lo))])) rfl (by rw [hml]; rfl) (argsL := [(.int p1), (.int p2), (.long lo)]) (rest := [(.int (own_ct p1 p2 lo))]) (lenOf pd_3 rfl) rfl (by show 2 * 0 + _ ≤ _; exact Nat.le_of_eq rfl) (hb hby at_75) (fun _ _ => ⟨rfl, e7, (by decide : 1 + 0 ≤ _), (by decide : 2 + 0 ≤ _)⟩)
  dsimp only [Pt.U, Pt.locs, Pt.cells, Pt.slots] at X8 l8 y8 z8 st8 hQ8
  subst l8 y8 z8
  obtain ⟨rfl, N8q, e8⟩ := hQ8
  have N := Fr.app N N8q
  refine OwnGo.fwd st8 ?_
  show OwnGo _ _ _ _ (T8.setTop (mkF m 78 #[.val (.int p1), .val (.int p2), .val (.long q3), .second, .val (.int p4), .val (.ref b1), .val (.long dd), .second, .val (.long lo), .second, .val (.long hi), .second, .val (.int (1 : Int32))] [(.int (own_ct p1 p2 lo)), (.int (own_ct p1 p2 lo))]))
  have hc78_9 : (own_ct p1 p2 lo).toInt = (own_ct p1 p2 lo).toInt := rfl
  refine OwnGo.fwd (fun tq' kq' => XS.icmpNo X8.here hx rfl (hb hby at_78) rfl (own_beq rfl rfl hc78_9).2 kq') ?_
  show OwnGo _ _ _ _ (T8.setTop (mkF m 81 #[.val (.int p1), .val (.int p2), .val (.long q3), .second, .val (.int p4), .val (.ref b1), .val (.long dd), .second, .val (.long lo), .second, .val (.long hi), .second, .val (.int (1 : Int32))] []))
  refine OwnGo.fwd (fun tq' kq' => XS.iconst X8.here hx rfl (hb hby at_81) kq') ?_
  show OwnGo _ _ _ _ (T8.setTop (mkF m 82 #[.val (.int p1), .val (.int p2), .val (.long q3), .second, .val (.int p4), .val (.ref b1), .val (.long dd), .second, .val (.long lo), .second, .val (.long hi), .second, .val (.int (1 : Int32))] [(.int (1 : Int32))]))
  refine OwnGo.fwd (fun tq' kq' => XS.goto X8.here hx rfl (pc0 := 82) (pc' := 86) rfl (hb hby at_82) (by decide) (by decide) kq') ?_
  show OwnGo _ _ _ _ (T8.setTop (mkF m 86 #[.val (.int p1), .val (.int p2), .val (.long q3), .second, .val (.int p4), .val (.ref b1), .val (.long dd), .second, .val (.long lo), .second, .val (.long hi), .second, .val (.int (1 : Int32))] [(.int (1 : Int32))]))
  refine OwnGo.fwd (fun tq' kq' => XS.istore X8.here hx rfl (hb hby at_86) rfl (l' := #[.val (.int p1), .val (.int p2), .val (.long q3), .second, .val (.int p4), .val (.ref b1), .val (.long dd), .second, .val (.long lo), .second, .val (.long hi), .second, .val (.int (1 : Int32))]) rfl kq') ?_
  show OwnGo _ _ _ _ (T8.setTop (mkF m 88 #[.val (.int p1), .val (.int p2), .val (.long q3), .second, .val (.int p4), .val (.ref b1), .val (.long dd), .second, .val (.long lo), .second, .val (.long hi), .second, .val (.int (1 : Int32))] []))
  refine OwnGo.fwd (fun tq' kq' => XS.iload X8.here hx rfl (hb hby at_88) rfl kq') ?_
  show OwnGo _ _ _ _ (T8.setTop (mkF m 90 #[.val (.int p1), .val (.int p2), .val (.long q3), .second, .val (.int p4), .val (.ref b1), .val (.long dd), .second, .val (.long lo), .second, .val (.long hi), .second, .val (.int (1 : Int32))] [(.int (1 : Int32))]))
  have hc90_10 : ¬ ((1 : Int) = (0 : Int)) := by decide
  refine OwnGo.fwd (fun tq' kq' => XS.ifNo X8.here hx rfl (hb hby at_90) rfl ((if0 _ _).trans (own_bneq (by decide) (by decide) hc90_10).1) kq') ?_
  show OwnGo _ _ _ _ (T8.setTop (mkF m 93 #[.val (.int p1), .val (.int p2), .val (.long q3), .second, .val (.int p4), .val (.ref b1), .val (.long dd), .second, .val (.long lo), .second, .val (.long hi), .second, .val (.int (1 : Int32))] []))
  refine OwnGo.fwd (fun tq' kq' => XS.aload X8.here hx rfl (hb hby at_93) rfl rfl kq') ?_
  show OwnGo _ _ _ _ (T8.setTop (mkF m 95 #[.val (.int p1), .val (.int p2), .val (.long q3), .second, .val (.int p4), .val (.ref b1), .val (.long dd), .second, .val (.long lo), .second, .val (.long hi), .second, .val (.int (1 : Int32))] [(.ref b1)]))
  refine OwnGo.fwd (fun tq' kq' => XS.lload X8.here hx rfl (hb hby at_95) rfl kq') ?_
  show OwnGo _ _ _ _ (T8.setTop (mkF m 97 #[.val (.int p1), .val (.int p2), .val (.long q3), .second, .val (.int p4), .val (.ref b1), .val (.long dd), .second, .val (.long lo), .second, .val (.long hi), .second, .val (.int (1 : Int32))] [(.long hi), (.ref b1)]))
  obtain ⟨cq11, kq11, q11a, q11b, q11c⟩ := isOf hZ e8 E_b1
  obtain ⟨_, _, ⟨T11, L11, k11, n11⟩, -, X11, ⟨Lc11, hQ11, l11, y11, z11⟩, st11⟩ := X8.virtualBack hx (y := (⟨"com/example/cerrojo/cerrojo/Range", "contains", "(J)Z"⟩ : MethodName)) (z := (⟨"com/example/cerrojo/cerrojo/Range", "contains", "(J)Z"⟩ : MethodName)) hown (mvT hZ (hw _ (List.mem_of_getElem? (i := 19) rfl))) (mvT hZ (hw _ (List.mem_of_getElem? (i := 20) rfl))) (notFace_of_selects (args := #[]) (mvT hZ (hw _ (List.mem_of_getElem? (i := 22) rfl)))) (mvT hZ (hw _ (List.mem_of_getElem? (i := 22) rfl))) (mvT hZ (hw _ (List.mem_of_getElem? (i := 21) rfl))) (by decide) (backOf (W := 0) (rm4 l Z a0 hw [] b1 p1 p2 hi h2 n0 Zs F_low_b1 F_high_b1) hZ (hw _ (List.mem_of_getElem? (i := 23) rfl)) (hw _ (List.mem_of_getElem? (i := 2) rfl)) (by decide) (by decide)) q11a q11c (g := (mkF m 97 #[.val (.int p1), .val (.int p2), .val (.long q3), .second, .val (.int p4), .val (.ref b1), .val (.long dd), .second, .val (.long lo), .second, .val (.long hi), .second, .val (.int (1 : Int32))] [(.long hi), (.ref b1)])) rfl (by rw [hml]; rfl) (Steps.refl _) (argsL := [(.long hi)]) (rest := []) (lenOf pd_2 rfl) rfl (by show 2 * 0 + _ ≤ _; exact Nat.le_of_eq rfl) (hb hby at_97) (fun _ _ => ⟨rfl, e8, (by decide : 1 + 0 ≤ _), (by decide : 2 + 0 ≤ _)⟩)
  dsimp only [Pt.U, Pt.locs, Pt.cells, Pt.slots] at X11 l11 y11 z11 st11 hQ11
  subst l11 y11 z11
  obtain ⟨rfl, N11q, e11⟩ := hQ11
  have N := Fr.app N N11q
  refine OwnGo.thru st11 ?_
  show OwnGo _ _ _ _ (T11.setTop (mkF m 100 #[.val (.int p1), .val (.int p2), .val (.long q3), .second, .val (.int p4), .val (.ref b1), .val (.long dd), .second, .val (.long lo), .second, .val (.long hi), .second, .val (.int (1 : Int32))] [(.int (own_ct p1 p2 hi))]))
  refine OwnGo.fwd (fun tq' kq' => XS.iloadN X11.here hx rfl (hb hby at_100) rfl kq') ?_
  show OwnGo _ _ _ _ (T11.setTop (mkF m 101 #[.val (.int p1), .val (.int p2), .val (.long q3), .second, .val (.int p4), .val (.ref b1), .val (.long dd), .second, .val (.long lo), .second, .val (.long hi), .second, .val (.int (1 : Int32))] [(.int p1), (.int (own_ct p1 p2 hi))]))
  refine OwnGo.fwd (fun tq' kq' => XS.iloadN X11.here hx rfl (hb hby at_101) rfl kq') ?_
  show OwnGo _ _ _ _ (T11.setTop (mkF m 102 #[.val (.int p1), .val (.int p2), .val (.long q3), .second, .val (.int p4), .val (.ref b1), .val (.long dd), .second, .val (.long lo), .second, .val (.long hi), .second, .val (.int (1 : Int32))] [(.int p2), (.int p1), (.int (own_ct p1 p2 hi))]))
  refine OwnGo.fwd (fun tq' kq' => XS.lload X11.here hx rfl (hb hby at_102) rfl kq') ?_
  show OwnGo _ _ _ _ (T11.setTop (mkF m 104 #[.val (.int p1), .val (.int p2), .val (.long q3), .second, .val (.int p4), .val (.ref b1), .val (.long dd), .second, .val (.long lo), .second, .val (.long hi), .second, .val (.int (1 : Int32))] [(.long hi), (.int p2), (.int p1), (.int (own_ct p1 p2 hi))]))
  obtain ⟨_, _, ⟨T12, L12, k12, n12⟩, -, X12, ⟨Lc12, hQ12, l12, y12, z12⟩, st12⟩ := Jvm.LawKit.callS X11 hx (y := (⟨"com/example/cerrojo/cerrojo/RangeContainsPinLaw", "ref", "(IIJ)Z"⟩ : MethodName)) hown (mvT hZ (hw _ (List.mem_of_getElem? (i := 24) rfl))) (mvT hZ (hw _ (List.mem_of_getElem? (i := 25) rfl))) (mvT hZ (hw _ (List.mem_of_getElem? (i := 26) rfl))) (mvT hZ (hw _ (List.mem_of_getElem? (i := 27) rfl))) (by decide) (backOf (W := 1) (rm5 l Z a0 hw [] p1 p2 hi h2 n0 Zs) hZ (hw _ (List.mem_of_getElem? (i := 27) rfl)) (hw _ (List.mem_of_getElem? (i := 26) rfl)) (by decide) (by decide)) (g := (mkF m 104 #[.val (.int p1), .val (.int p2), .val (.long q3), .second, .val (.int p4), .val (.ref b1), .val (.long dd), .second, .val (.long lo), .second, .val (.long hi), .second, .val (.int (1 : Int32))] [(.long hi), (.int p2), (.int p1), (.int (own_ct p1 p2 hi))])) rfl (by rw [hml]; rfl) (argsL := [(.int p1), (.int p2), (.long hi)]) (rest := [(.int (own_ct p1 p2 hi))]) (lenOf pd_3 rfl) rfl (by show 2 * 0 + _ ≤ _; exact Nat.le_of_eq rfl) (hb hby at_104) (fun _ _ => ⟨rfl, e11, (by decide : 1 + 0 ≤ _), (by decide : 2 + 0 ≤ _)⟩)
  dsimp only [Pt.U, Pt.locs, Pt.cells, Pt.slots] at X12 l12 y12 z12 st12 hQ12
  subst l12 y12 z12
  obtain ⟨rfl, N12q, e12⟩ := hQ12
  have N := Fr.app N N12q
  refine OwnGo.fwd st12 ?_
  show OwnGo _ _ _ _ (T12.setTop (mkF m 107 #[.val (.int p1), .val (.int p2), .val (.long q3), .second, .val (.int p4), .val (.ref b1), .val (.long dd), .second, .val (.long lo), .second, .val (.long hi), .second, .val (.int (1 : Int32))] [(.int (own_ct p1 p2 hi)), (.int (own_ct p1 p2 hi))]))
  have hc107_13 : (own_ct p1 p2 hi).toInt = (own_ct p1 p2 hi).toInt := rfl
  refine OwnGo.fwd (fun tq' kq' => XS.icmpNo X12.here hx rfl (hb hby at_107) rfl (own_beq rfl rfl hc107_13).2 kq') ?_
  show OwnGo _ _ _ _ (T12.setTop (mkF m 110 #[.val (.int p1), .val (.int p2), .val (.long q3), .second, .val (.int p4), .val (.ref b1), .val (.long dd), .second, .val (.long lo), .second, .val (.long hi), .second, .val (.int (1 : Int32))] []))
  refine OwnGo.fwd (fun tq' kq' => XS.iconst X12.here hx rfl (hb hby at_110) kq') ?_
  show OwnGo _ _ _ _ (T12.setTop (mkF m 111 #[.val (.int p1), .val (.int p2), .val (.long q3), .second, .val (.int p4), .val (.ref b1), .val (.long dd), .second, .val (.long lo), .second, .val (.long hi), .second, .val (.int (1 : Int32))] [(.int (1 : Int32))]))
  refine OwnGo.fwd (fun tq' kq' => XS.goto X12.here hx rfl (pc0 := 111) (pc' := 115) rfl (hb hby at_111) (by decide) (by decide) kq') ?_
  show OwnGo _ _ _ _ (T12.setTop (mkF m 115 #[.val (.int p1), .val (.int p2), .val (.long q3), .second, .val (.int p4), .val (.ref b1), .val (.long dd), .second, .val (.long lo), .second, .val (.long hi), .second, .val (.int (1 : Int32))] [(.int (1 : Int32))]))
  refine OwnGo.fwd (fun tq' kq' => XS.istore X12.here hx rfl (hb hby at_115) rfl (l' := #[.val (.int p1), .val (.int p2), .val (.long q3), .second, .val (.int p4), .val (.ref b1), .val (.long dd), .second, .val (.long lo), .second, .val (.long hi), .second, .val (.int (1 : Int32))]) rfl kq') ?_
  show OwnGo _ _ _ _ (T12.setTop (mkF m 117 #[.val (.int p1), .val (.int p2), .val (.long q3), .second, .val (.int p4), .val (.ref b1), .val (.long dd), .second, .val (.long lo), .second, .val (.long hi), .second, .val (.int (1 : Int32))] []))
  refine OwnGo.fwd (fun tq' kq' => XS.iload X12.here hx rfl (hb hby at_117) rfl kq') ?_
  show OwnGo _ _ _ _ (T12.setTop (mkF m 119 #[.val (.int p1), .val (.int p2), .val (.long q3), .second, .val (.int p4), .val (.ref b1), .val (.long dd), .second, .val (.long lo), .second, .val (.long hi), .second, .val (.int (1 : Int32))] [(.int (1 : Int32))]))
  have hc119_14 : ¬ ((1 : Int) = (0 : Int)) := by decide
  refine OwnGo.fwd (fun tq' kq' => XS.ifNo X12.here hx rfl (hb hby at_119) rfl ((if0 _ _).trans (own_bneq (by decide) (by decide) hc119_14).1) kq') ?_
  show OwnGo _ _ _ _ (T12.setTop (mkF m 122 #[.val (.int p1), .val (.int p2), .val (.long q3), .second, .val (.int p4), .val (.ref b1), .val (.long dd), .second, .val (.long lo), .second, .val (.long hi), .second, .val (.int (1 : Int32))] []))
  refine OwnGo.fwd (fun tq' kq' => XS.aload X12.here hx rfl (hb hby at_122) rfl rfl kq') ?_
  show OwnGo _ _ _ _ (T12.setTop (mkF m 124 #[.val (.int p1), .val (.int p2), .val (.long q3), .second, .val (.int p4), .val (.ref b1), .val (.long dd), .second, .val (.long lo), .second, .val (.long hi), .second, .val (.int (1 : Int32))] [(.ref b1)]))
  refine OwnGo.fwd (fun tq' kq' => XS.iloadN X12.here hx rfl (hb hby at_124) rfl kq') ?_
  show OwnGo _ _ _ _ (T12.setTop (mkF m 125 #[.val (.int p1), .val (.int p2), .val (.long q3), .second, .val (.int p4), .val (.ref b1), .val (.long dd), .second, .val (.long lo), .second, .val (.long hi), .second, .val (.int (1 : Int32))] [(.int p1), (.ref b1)]))
  refine OwnGo.fwd (fun tq' kq' => XS.i2l X12.here hx rfl (hb hby at_125) rfl kq') ?_
  show OwnGo _ _ _ _ (T12.setTop (mkF m 126 #[.val (.int p1), .val (.int p2), .val (.long q3), .second, .val (.int p4), .val (.ref b1), .val (.long dd), .second, .val (.long lo), .second, .val (.long hi), .second, .val (.int (1 : Int32))] [(.long p1.toInt64), (.ref b1)]))
  refine OwnGo.fwd (fun tq' kq' => XS.lconst X12.here hx rfl (hb hby at_126) kq') ?_
  show OwnGo _ _ _ _ (T12.setTop (mkF m 127 #[.val (.int p1), .val (.int p2), .val (.long q3), .second, .val (.int p4), .val (.ref b1), .val (.long dd), .second, .val (.long lo), .second, .val (.long hi), .second, .val (.int (1 : Int32))] [(.long (1 : Int64)), (.long p1.toInt64), (.ref b1)]))
  refine OwnGo.fwd (fun tq' kq' => XS.lsub X12.here hx rfl (hb hby at_127) rfl kq') ?_
  show OwnGo _ _ _ _ (T12.setTop (mkF m 128 #[.val (.int p1), .val (.int p2), .val (.long q3), .second, .val (.int p4), .val (.ref b1), .val (.long dd), .second, .val (.long lo), .second, .val (.long hi), .second, .val (.int (1 : Int32))] [(.long (p1.toInt64 - (1 : Int64))), (.ref b1)]))
  obtain ⟨cq15, kq15, q15a, q15b, q15c⟩ := isOf hZ e12 E_b1
  obtain ⟨_, _, ⟨T15, L15, k15, n15⟩, -, X15, ⟨Lc15, hQ15, l15, y15, z15⟩, st15⟩ := X12.virtualBack hx (y := (⟨"com/example/cerrojo/cerrojo/Range", "contains", "(J)Z"⟩ : MethodName)) (z := (⟨"com/example/cerrojo/cerrojo/Range", "contains", "(J)Z"⟩ : MethodName)) hown (mvT hZ (hw _ (List.mem_of_getElem? (i := 19) rfl))) (mvT hZ (hw _ (List.mem_of_getElem? (i := 20) rfl))) (notFace_of_selects (args := #[]) (mvT hZ (hw _ (List.mem_of_getElem? (i := 22) rfl)))) (mvT hZ (hw _ (List.mem_of_getElem? (i := 22) rfl))) (mvT hZ (hw _ (List.mem_of_getElem? (i := 21) rfl))) (by decide) (backOf (W := 0) (rm4 l Z a0 hw [] b1 p1 p2 (p1.toInt64 - (1 : Int64)) h2 n0 Zs F_low_b1 F_high_b1) hZ (hw _ (List.mem_of_getElem? (i := 23) rfl)) (hw _ (List.mem_of_getElem? (i := 2) rfl)) (by decide) (by decide)) q15a q15c (g := (mkF m 128 #[.val (.int p1), .val (.int p2), .val (.long q3), .second, .val (.int p4), .val (.ref b1), .val (.long dd), .second, .val (.long lo), .second, .val (.long hi), .second, .val (.int (1 : Int32))] [(.long (p1.toInt64 - (1 : Int64))), (.ref b1)])) rfl (by rw [hml]; rfl) (Steps.refl _) (argsL := [(.long (p1.toInt64 - (1 : Int64)))]) (rest := []) (lenOf pd_2 rfl) rfl (by show 2 * 0 + _ ≤ _; exact Nat.le_of_eq rfl) (hb hby at_128) (fun _ _ => ⟨rfl, e12, (by decide : 1 + 0 ≤ _), (by decide : 2 + 0 ≤ _)⟩)
  dsimp only [Pt.U, Pt.locs, Pt.cells, Pt.slots] at X15 l15 y15 z15 st15 hQ15
  subst l15 y15 z15
  obtain ⟨rfl, N15q, e15⟩ := hQ15
  have N := Fr.app N N15q
  refine OwnGo.thru st15 ?_
  show OwnGo _ _ _ _ (T15.setTop (mkF m 131 #[.val (.int p1), .val (.int p2), .val (.long q3), .second, .val (.int p4), .val (.ref b1), .val (.long dd), .second, .val (.long lo), .second, .val (.long hi), .second, .val (.int (1 : Int32))] [(.int (own_ct p1 p2 (p1.toInt64 - (1 : Int64))))]))
  have hc131_16 : (own_ct p1 p2 (p1.toInt64 - (1 : Int64))).toInt = 0 := own_lo p1 p2
  refine OwnGo.fwd (fun tq' kq' => XS.ifNo X15.here hx rfl (hb hby at_131) rfl ((if0 _ _).trans (own_beq rfl (by decide) hc131_16).2) kq') ?_
  show OwnGo _ _ _ _ (T15.setTop (mkF m 134 #[.val (.int p1), .val (.int p2), .val (.long q3), .second, .val (.int p4), .val (.ref b1), .val (.long dd), .second, .val (.long lo), .second, .val (.long hi), .second, .val (.int (1 : Int32))] []))
  refine OwnGo.fwd (fun tq' kq' => XS.iconst X15.here hx rfl (hb hby at_134) kq') ?_
  show OwnGo _ _ _ _ (T15.setTop (mkF m 135 #[.val (.int p1), .val (.int p2), .val (.long q3), .second, .val (.int p4), .val (.ref b1), .val (.long dd), .second, .val (.long lo), .second, .val (.long hi), .second, .val (.int (1 : Int32))] [(.int (1 : Int32))]))
  refine OwnGo.fwd (fun tq' kq' => XS.goto X15.here hx rfl (pc0 := 135) (pc' := 139) rfl (hb hby at_135) (by decide) (by decide) kq') ?_
  show OwnGo _ _ _ _ (T15.setTop (mkF m 139 #[.val (.int p1), .val (.int p2), .val (.long q3), .second, .val (.int p4), .val (.ref b1), .val (.long dd), .second, .val (.long lo), .second, .val (.long hi), .second, .val (.int (1 : Int32))] [(.int (1 : Int32))]))
  refine OwnGo.fwd (fun tq' kq' => XS.istore X15.here hx rfl (hb hby at_139) rfl (l' := #[.val (.int p1), .val (.int p2), .val (.long q3), .second, .val (.int p4), .val (.ref b1), .val (.long dd), .second, .val (.long lo), .second, .val (.long hi), .second, .val (.int (1 : Int32))]) rfl kq') ?_
  show OwnGo _ _ _ _ (T15.setTop (mkF m 141 #[.val (.int p1), .val (.int p2), .val (.long q3), .second, .val (.int p4), .val (.ref b1), .val (.long dd), .second, .val (.long lo), .second, .val (.long hi), .second, .val (.int (1 : Int32))] []))
  refine OwnGo.fwd (fun tq' kq' => XS.iload X15.here hx rfl (hb hby at_141) rfl kq') ?_
  show OwnGo _ _ _ _ (T15.setTop (mkF m 143 #[.val (.int p1), .val (.int p2), .val (.long q3), .second, .val (.int p4), .val (.ref b1), .val (.long dd), .second, .val (.long lo), .second, .val (.long hi), .second, .val (.int (1 : Int32))] [(.int (1 : Int32))]))
  have hc143_17 : ¬ ((1 : Int) = (0 : Int)) := by decide
  refine OwnGo.fwd (fun tq' kq' => XS.ifNo X15.here hx rfl (hb hby at_143) rfl ((if0 _ _).trans (own_bneq (by decide) (by decide) hc143_17).1) kq') ?_
  show OwnGo _ _ _ _ (T15.setTop (mkF m 146 #[.val (.int p1), .val (.int p2), .val (.long q3), .second, .val (.int p4), .val (.ref b1), .val (.long dd), .second, .val (.long lo), .second, .val (.long hi), .second, .val (.int (1 : Int32))] []))
  refine OwnGo.fwd (fun tq' kq' => XS.aload X15.here hx rfl (hb hby at_146) rfl rfl kq') ?_
  show OwnGo _ _ _ _ (T15.setTop (mkF m 148 #[.val (.int p1), .val (.int p2), .val (.long q3), .second, .val (.int p4), .val (.ref b1), .val (.long dd), .second, .val (.long lo), .second, .val (.long hi), .second, .val (.int (1 : Int32))] [(.ref b1)]))
  refine OwnGo.fwd (fun tq' kq' => XS.iloadN X15.here hx rfl (hb hby at_148) rfl kq') ?_
  show OwnGo _ _ _ _ (T15.setTop (mkF m 149 #[.val (.int p1), .val (.int p2), .val (.long q3), .second, .val (.int p4), .val (.ref b1), .val (.long dd), .second, .val (.long lo), .second, .val (.long hi), .second, .val (.int (1 : Int32))] [(.int p2), (.ref b1)]))
  refine OwnGo.fwd (fun tq' kq' => XS.i2l X15.here hx rfl (hb hby at_149) rfl kq') ?_
  show OwnGo _ _ _ _ (T15.setTop (mkF m 150 #[.val (.int p1), .val (.int p2), .val (.long q3), .second, .val (.int p4), .val (.ref b1), .val (.long dd), .second, .val (.long lo), .second, .val (.long hi), .second, .val (.int (1 : Int32))] [(.long p2.toInt64), (.ref b1)]))
  refine OwnGo.fwd (fun tq' kq' => XS.lconst X15.here hx rfl (hb hby at_150) kq') ?_
  show OwnGo _ _ _ _ (T15.setTop (mkF m 151 #[.val (.int p1), .val (.int p2), .val (.long q3), .second, .val (.int p4), .val (.ref b1), .val (.long dd), .second, .val (.long lo), .second, .val (.long hi), .second, .val (.int (1 : Int32))] [(.long (1 : Int64)), (.long p2.toInt64), (.ref b1)]))
  refine OwnGo.fwd (fun tq' kq' => XS.ladd X15.here hx rfl (hb hby at_151) rfl kq') ?_
  show OwnGo _ _ _ _ (T15.setTop (mkF m 152 #[.val (.int p1), .val (.int p2), .val (.long q3), .second, .val (.int p4), .val (.ref b1), .val (.long dd), .second, .val (.long lo), .second, .val (.long hi), .second, .val (.int (1 : Int32))] [(.long (p2.toInt64 + (1 : Int64))), (.ref b1)]))
  obtain ⟨cq18, kq18, q18a, q18b, q18c⟩ := isOf hZ e15 E_b1
  obtain ⟨_, _, ⟨T18, L18, k18, n18⟩, -, X18, ⟨Lc18, hQ18, l18, y18, z18⟩, st18⟩ := X15.virtualBack hx (y := (⟨"com/example/cerrojo/cerrojo/Range", "contains", "(J)Z"⟩ : MethodName)) (z := (⟨"com/example/cerrojo/cerrojo/Range", "contains", "(J)Z"⟩ : MethodName)) hown (mvT hZ (hw _ (List.mem_of_getElem? (i := 19) rfl))) (mvT hZ (hw _ (List.mem_of_getElem? (i := 20) rfl))) (notFace_of_selects (args := #[]) (mvT hZ (hw _ (List.mem_of_getElem? (i := 22) rfl)))) (mvT hZ (hw _ (List.mem_of_getElem? (i := 22) rfl))) (mvT hZ (hw _ (List.mem_of_getElem? (i := 21) rfl))) (by decide) (backOf (W := 0) (rm4 l Z a0 hw [] b1 p1 p2 (p2.toInt64 + (1 : Int64)) h2 n0 Zs F_low_b1 F_high_b1) hZ (hw _ (List.mem_of_getElem? (i := 23) rfl)) (hw _ (List.mem_of_getElem? (i := 2) rfl)) (by decide) (by decide)) q18a q18c (g := (mkF m 152 #[.val (.int p1), .val (.int p2), .val (.long q3), .second, .val (.int p4), .val (.ref b1), .val (.long dd), .second, .val (.long lo), .second, .val (.long hi), .second, .val (.int (1 : Int32))] [(.long (p2.toInt64 + (1 : Int64))), (.ref b1)])) rfl (by rw [hml]; rfl) (Steps.refl _) (argsL := [(.long (p2.toInt64 + (1 : Int64)))]) (rest := []) (lenOf pd_2 rfl) rfl (by show 2 * 0 + _ ≤ _; exact Nat.le_of_eq rfl) (hb hby at_152) (fun _ _ => ⟨rfl, e15, (by decide : 1 + 0 ≤ _), (by decide : 2 + 0 ≤ _)⟩)
  dsimp only [Pt.U, Pt.locs, Pt.cells, Pt.slots] at X18 l18 y18 z18 st18 hQ18
  subst l18 y18 z18
  obtain ⟨rfl, N18q, e18⟩ := hQ18
  have N := Fr.app N N18q
  refine OwnGo.thru st18 ?_
  show OwnGo _ _ _ _ (T18.setTop (mkF m 155 #[.val (.int p1), .val (.int p2), .val (.long q3), .second, .val (.int p4), .val (.ref b1), .val (.long dd), .second, .val (.long lo), .second, .val (.long hi), .second, .val (.int (1 : Int32))] [(.int (own_ct p1 p2 (p2.toInt64 + (1 : Int64))))]))
  have hc155_19 : (own_ct p1 p2 (p2.toInt64 + (1 : Int64))).toInt = 0 := own_hi p1 p2
  refine OwnGo.fwd (fun tq' kq' => XS.ifNo X18.here hx rfl (hb hby at_155) rfl ((if0 _ _).trans (own_beq rfl (by decide) hc155_19).2) kq') ?_
  show OwnGo _ _ _ _ (T18.setTop (mkF m 158 #[.val (.int p1), .val (.int p2), .val (.long q3), .second, .val (.int p4), .val (.ref b1), .val (.long dd), .second, .val (.long lo), .second, .val (.long hi), .second, .val (.int (1 : Int32))] []))
  refine OwnGo.fwd (fun tq' kq' => XS.iconst X18.here hx rfl (hb hby at_158) kq') ?_
  show OwnGo _ _ _ _ (T18.setTop (mkF m 159 #[.val (.int p1), .val (.int p2), .val (.long q3), .second, .val (.int p4), .val (.ref b1), .val (.long dd), .second, .val (.long lo), .second, .val (.long hi), .second, .val (.int (1 : Int32))] [(.int (1 : Int32))]))
  refine OwnGo.fwd (fun tq' kq' => XS.goto X18.here hx rfl (pc0 := 159) (pc' := 163) rfl (hb hby at_159) (by decide) (by decide) kq') ?_
  show OwnGo _ _ _ _ (T18.setTop (mkF m 163 #[.val (.int p1), .val (.int p2), .val (.long q3), .second, .val (.int p4), .val (.ref b1), .val (.long dd), .second, .val (.long lo), .second, .val (.long hi), .second, .val (.int (1 : Int32))] [(.int (1 : Int32))]))
  refine OwnGo.fwd (fun tq' kq' => XS.istore X18.here hx rfl (hb hby at_163) rfl (l' := #[.val (.int p1), .val (.int p2), .val (.long q3), .second, .val (.int p4), .val (.ref b1), .val (.long dd), .second, .val (.long lo), .second, .val (.long hi), .second, .val (.int (1 : Int32))]) rfl kq') ?_
  show OwnGo _ _ _ _ (T18.setTop (mkF m 165 #[.val (.int p1), .val (.int p2), .val (.long q3), .second, .val (.int p4), .val (.ref b1), .val (.long dd), .second, .val (.long lo), .second, .val (.long hi), .second, .val (.int (1 : Int32))] []))
  refine OwnGo.fwd (fun tq' kq' => XS.iload X18.here hx rfl (hb hby at_165) rfl kq') ?_
  show OwnGo _ _ _ _ (T18.setTop (mkF m 167 #[.val (.int p1), .val (.int p2), .val (.long q3), .second, .val (.int p4), .val (.ref b1), .val (.long dd), .second, .val (.long lo), .second, .val (.long hi), .second, .val (.int (1 : Int32))] [(.int (1 : Int32))]))
  have hc167_20 : ¬ ((1 : Int) = (0 : Int)) := by decide
  refine OwnGo.fwd (fun tq' kq' => XS.ifNo X18.here hx rfl (hb hby at_167) rfl ((if0 _ _).trans (own_bneq (by decide) (by decide) hc167_20).1) kq') ?_
  show OwnGo _ _ _ _ (T18.setTop (mkF m 170 #[.val (.int p1), .val (.int p2), .val (.long q3), .second, .val (.int p4), .val (.ref b1), .val (.long dd), .second, .val (.long lo), .second, .val (.long hi), .second, .val (.int (1 : Int32))] []))
  refine OwnGo.fwd (fun tq' kq' => XS.aload X18.here hx rfl (hb hby at_170) rfl rfl kq') ?_
  show OwnGo _ _ _ _ (T18.setTop (mkF m 172 #[.val (.int p1), .val (.int p2), .val (.long q3), .second, .val (.int p4), .val (.ref b1), .val (.long dd), .second, .val (.long lo), .second, .val (.long hi), .second, .val (.int (1 : Int32))] [(.ref b1)]))
  refine OwnGo.fwd (fun tq' kq' => XS.iloadN X18.here hx rfl (hb hby at_172) rfl kq') ?_
  show OwnGo _ _ _ _ (T18.setTop (mkF m 173 #[.val (.int p1), .val (.int p2), .val (.long q3), .second, .val (.int p4), .val (.ref b1), .val (.long dd), .second, .val (.long lo), .second, .val (.long hi), .second, .val (.int (1 : Int32))] [(.int p1), (.ref b1)]))
  refine OwnGo.fwd (fun tq' kq' => XS.i2l X18.here hx rfl (hb hby at_173) rfl kq') ?_
  show OwnGo _ _ _ _ (T18.setTop (mkF m 174 #[.val (.int p1), .val (.int p2), .val (.long q3), .second, .val (.int p4), .val (.ref b1), .val (.long dd), .second, .val (.long lo), .second, .val (.long hi), .second, .val (.int (1 : Int32))] [(.long p1.toInt64), (.ref b1)]))
  obtain ⟨cq21, kq21, q21a, q21b, q21c⟩ := isOf hZ e18 E_b1
  obtain ⟨_, _, ⟨T21, L21, k21, n21⟩, -, X21, ⟨Lc21, hQ21, l21, y21, z21⟩, st21⟩ := X18.virtualBack hx (y := (⟨"com/example/cerrojo/cerrojo/Range", "contains", "(J)Z"⟩ : MethodName)) (z := (⟨"com/example/cerrojo/cerrojo/Range", "contains", "(J)Z"⟩ : MethodName)) hown (mvT hZ (hw _ (List.mem_of_getElem? (i := 19) rfl))) (mvT hZ (hw _ (List.mem_of_getElem? (i := 20) rfl))) (notFace_of_selects (args := #[]) (mvT hZ (hw _ (List.mem_of_getElem? (i := 22) rfl)))) (mvT hZ (hw _ (List.mem_of_getElem? (i := 22) rfl))) (mvT hZ (hw _ (List.mem_of_getElem? (i := 21) rfl))) (by decide) (backOf (W := 0) (rm4 l Z a0 hw [] b1 p1 p2 p1.toInt64 h2 n0 Zs F_low_b1 F_high_b1) hZ (hw _ (List.mem_of_getElem? (i := 23) rfl)) (hw _ (List.mem_of_getElem? (i := 2) rfl)) (by decide) (by decide)) q21a q21c (g := (mkF m 174 #[.val (.int p1), .val (.int p2), .val (.long q3), .second, .val (.int p4), .val (.ref b1), .val (.long dd), .second, .val (.long lo), .second, .val (.long hi), .second, .val (.int (1 : Int32))] [(.long p1.toInt64), (.ref b1)])) rfl (by rw [hml]; rfl) (Steps.refl _) (argsL := [(.long p1.toInt64)]) (rest := []) (lenOf pd_2 rfl) rfl (by show 2 * 0 + _ ≤ _; exact Nat.le_of_eq rfl) (hb hby at_174) (fun _ _ => ⟨rfl, e18, (by decide : 1 + 0 ≤ _), (by decide : 2 + 0 ≤ _)⟩)
  dsimp only [Pt.U, Pt.locs, Pt.cells, Pt.slots] at X21 l21 y21 z21 st21 hQ21
  subst l21 y21 z21
  obtain ⟨rfl, N21q, e21⟩ := hQ21
  have N := Fr.app N N21q
  refine OwnGo.thru st21 ?_
  show OwnGo _ _ _ _ (T21.setTop (mkF m 177 #[.val (.int p1), .val (.int p2), .val (.long q3), .second, .val (.int p4), .val (.ref b1), .val (.long dd), .second, .val (.long lo), .second, .val (.long hi), .second, .val (.int (1 : Int32))] [(.int (own_ct p1 p2 p1.toInt64))]))
  refine OwnGo.fwd (fun tq' kq' => XS.iloadN X21.here hx rfl (hb hby at_177) rfl kq') ?_
  show OwnGo _ _ _ _ (T21.setTop (mkF m 178 #[.val (.int p1), .val (.int p2), .val (.long q3), .second, .val (.int p4), .val (.ref b1), .val (.long dd), .second, .val (.long lo), .second, .val (.long hi), .second, .val (.int (1 : Int32))] [(.int p1), (.int (own_ct p1 p2 p1.toInt64))]))
  refine OwnGo.fwd (fun tq' kq' => XS.iloadN X21.here hx rfl (hb hby at_178) rfl kq') ?_
  show OwnGo _ _ _ _ (T21.setTop (mkF m 179 #[.val (.int p1), .val (.int p2), .val (.long q3), .second, .val (.int p4), .val (.ref b1), .val (.long dd), .second, .val (.long lo), .second, .val (.long hi), .second, .val (.int (1 : Int32))] [(.int p2), (.int p1), (.int (own_ct p1 p2 p1.toInt64))]))
  by_cases hc179_22 : p2.toInt < p1.toInt
  · refine OwnGo.fwd (fun tq' kq' => XS.icmpYes X21.here hx rfl (pc0 := 179) (pc' := 186) rfl (hb hby at_179) rfl (own_blt rfl rfl hc179_22).2.2.1 (by decide) (by decide) kq') ?_
    show OwnGo _ _ _ _ (T21.setTop (mkF m 186 #[.val (.int p1), .val (.int p2), .val (.long q3), .second, .val (.int p4), .val (.ref b1), .val (.long dd), .second, .val (.long lo), .second, .val (.long hi), .second, .val (.int (1 : Int32))] [(.int (own_ct p1 p2 p1.toInt64))]))
    refine OwnGo.fwd (fun tq' kq' => XS.iconst X21.here hx rfl (hb hby at_186) kq') ?_
    show OwnGo _ _ _ _ (T21.setTop (mkF m 187 #[.val (.int p1), .val (.int p2), .val (.long q3), .second, .val (.int p4), .val (.ref b1), .val (.long dd), .second, .val (.long lo), .second, .val (.long hi), .second, .val (.int (1 : Int32))] [(.int (0 : Int32)), (.int (own_ct p1 p2 p1.toInt64))]))
    have hc187_23 : (own_ct p1 p2 p1.toInt64).toInt = 0 := by rw [own_atA0 hc179_22]; decide
    refine OwnGo.fwd (fun tq' kq' => XS.icmpNo X21.here hx rfl (hb hby at_187) rfl (own_beq rfl (by decide) hc187_23).2 kq') ?_
    show OwnGo _ _ _ _ (T21.setTop (mkF m 190 #[.val (.int p1), .val (.int p2), .val (.long q3), .second, .val (.int p4), .val (.ref b1), .val (.long dd), .second, .val (.long lo), .second, .val (.long hi), .second, .val (.int (1 : Int32))] []))
    refine OwnGo.fwd (fun tq' kq' => XS.iconst X21.here hx rfl (hb hby at_190) kq') ?_
    show OwnGo _ _ _ _ (T21.setTop (mkF m 191 #[.val (.int p1), .val (.int p2), .val (.long q3), .second, .val (.int p4), .val (.ref b1), .val (.long dd), .second, .val (.long lo), .second, .val (.long hi), .second, .val (.int (1 : Int32))] [(.int (1 : Int32))]))
    refine OwnGo.fwd (fun tq' kq' => XS.goto X21.here hx rfl (pc0 := 191) (pc' := 195) rfl (hb hby at_191) (by decide) (by decide) kq') ?_
    show OwnGo _ _ _ _ (T21.setTop (mkF m 195 #[.val (.int p1), .val (.int p2), .val (.long q3), .second, .val (.int p4), .val (.ref b1), .val (.long dd), .second, .val (.long lo), .second, .val (.long hi), .second, .val (.int (1 : Int32))] [(.int (1 : Int32))]))
    refine OwnGo.fwd (fun tq' kq' => XS.istore X21.here hx rfl (hb hby at_195) rfl (l' := #[.val (.int p1), .val (.int p2), .val (.long q3), .second, .val (.int p4), .val (.ref b1), .val (.long dd), .second, .val (.long lo), .second, .val (.long hi), .second, .val (.int (1 : Int32))]) rfl kq') ?_
    show OwnGo _ _ _ _ (T21.setTop (mkF m 197 #[.val (.int p1), .val (.int p2), .val (.long q3), .second, .val (.int p4), .val (.ref b1), .val (.long dd), .second, .val (.long lo), .second, .val (.long hi), .second, .val (.int (1 : Int32))] []))
    refine OwnGo.fwd (fun tq' kq' => XS.iload X21.here hx rfl (hb hby at_197) rfl kq') ?_
    show OwnGo _ _ _ _ (T21.setTop (mkF m 199 #[.val (.int p1), .val (.int p2), .val (.long q3), .second, .val (.int p4), .val (.ref b1), .val (.long dd), .second, .val (.long lo), .second, .val (.long hi), .second, .val (.int (1 : Int32))] [(.int (1 : Int32))]))
    have hc199_24 : ¬ ((1 : Int) = (0 : Int)) := by decide
    refine OwnGo.fwd (fun tq' kq' => XS.ifNo X21.here hx rfl (hb hby at_199) rfl ((if0 _ _).trans (own_bneq (by decide) (by decide) hc199_24).1) kq') ?_
    show OwnGo _ _ _ _ (T21.setTop (mkF m 202 #[.val (.int p1), .val (.int p2), .val (.long q3), .second, .val (.int p4), .val (.ref b1), .val (.long dd), .second, .val (.long lo), .second, .val (.long hi), .second, .val (.int (1 : Int32))] []))
    refine OwnGo.fwd (fun tq' kq' => XS.aload X21.here hx rfl (hb hby at_202) rfl rfl kq') ?_
    show OwnGo _ _ _ _ (T21.setTop (mkF m 204 #[.val (.int p1), .val (.int p2), .val (.long q3), .second, .val (.int p4), .val (.ref b1), .val (.long dd), .second, .val (.long lo), .second, .val (.long hi), .second, .val (.int (1 : Int32))] [(.ref b1)]))
    refine OwnGo.fwd (fun tq' kq' => XS.iloadN X21.here hx rfl (hb hby at_204) rfl kq') ?_
    show OwnGo _ _ _ _ (T21.setTop (mkF m 205 #[.val (.int p1), .val (.int p2), .val (.long q3), .second, .val (.int p4), .val (.ref b1), .val (.long dd), .second, .val (.long lo), .second, .val (.long hi), .second, .val (.int (1 : Int32))] [(.int p2), (.ref b1)]))
    refine OwnGo.fwd (fun tq' kq' => XS.i2l X21.here hx rfl (hb hby at_205) rfl kq') ?_
    show OwnGo _ _ _ _ (T21.setTop (mkF m 206 #[.val (.int p1), .val (.int p2), .val (.long q3), .second, .val (.int p4), .val (.ref b1), .val (.long dd), .second, .val (.long lo), .second, .val (.long hi), .second, .val (.int (1 : Int32))] [(.long p2.toInt64), (.ref b1)]))
    obtain ⟨cq25, kq25, q25a, q25b, q25c⟩ := isOf hZ e21 E_b1
    obtain ⟨_, _, ⟨T25, L25, k25, n25⟩, -, X25, ⟨Lc25, hQ25, l25, y25, z25⟩, st25⟩ := X21.virtualBack hx (y := (⟨"com/example/cerrojo/cerrojo/Range", "contains", "(J)Z"⟩ : MethodName)) (z := (⟨"com/example/cerrojo/cerrojo/Range", "contains", "(J)Z"⟩ : MethodName)) hown (mvT hZ (hw _ (List.mem_of_getElem? (i := 19) rfl))) (mvT hZ (hw _ (List.mem_of_getElem? (i := 20) rfl))) (notFace_of_selects (args := #[]) (mvT hZ (hw _ (List.mem_of_getElem? (i := 22) rfl)))) (mvT hZ (hw _ (List.mem_of_getElem? (i := 22) rfl))) (mvT hZ (hw _ (List.mem_of_getElem? (i := 21) rfl))) (by decide) (backOf (W := 0) (rm4 l Z a0 hw [] b1 p1 p2 p2.toInt64 h2 n0 Zs F_low_b1 F_high_b1) hZ (hw _ (List.mem_of_getElem? (i := 23) rfl)) (hw _ (List.mem_of_getElem? (i := 2) rfl)) (by decide) (by decide)) q25a q25c (g := (mkF m 206 #[.val (.int p1), .val (.int p2), .val (.long q3), .second, .val (.int p4), .val (.ref b1), .val (.long dd), .second, .val (.long lo), .second, .val (.long hi), .second, .val (.int (1 : Int32))] [(.long p2.toInt64), (.ref b1)])) rfl (by rw [hml]; rfl) (Steps.refl _) (argsL := [(.long p2.toInt64)]) (rest := []) (lenOf pd_2 rfl) rfl (by show 2 * 0 + _ ≤ _; exact Nat.le_of_eq rfl) (hb hby at_206) (fun _ _ => ⟨rfl, e21, (by decide : 1 + 0 ≤ _), (by decide : 2 + 0 ≤ _)⟩)
    dsimp only [Pt.U, Pt.locs, Pt.cells, Pt.slots] at X25 l25 y25 z25 st25 hQ25
    subst l25 y25 z25
    obtain ⟨rfl, N25q, e25⟩ := hQ25
    have N := Fr.app N N25q
    refine OwnGo.thru st25 ?_
    show OwnGo _ _ _ _ (T25.setTop (mkF m 209 #[.val (.int p1), .val (.int p2), .val (.long q3), .second, .val (.int p4), .val (.ref b1), .val (.long dd), .second, .val (.long lo), .second, .val (.long hi), .second, .val (.int (1 : Int32))] [(.int (own_ct p1 p2 p2.toInt64))]))
    refine OwnGo.fwd (fun tq' kq' => XS.iloadN X25.here hx rfl (hb hby at_209) rfl kq') ?_
    show OwnGo _ _ _ _ (T25.setTop (mkF m 210 #[.val (.int p1), .val (.int p2), .val (.long q3), .second, .val (.int p4), .val (.ref b1), .val (.long dd), .second, .val (.long lo), .second, .val (.long hi), .second, .val (.int (1 : Int32))] [(.int p1), (.int (own_ct p1 p2 p2.toInt64))]))
    refine OwnGo.fwd (fun tq' kq' => XS.iloadN X25.here hx rfl (hb hby at_210) rfl kq') ?_
    show OwnGo _ _ _ _ (T25.setTop (mkF m 211 #[.val (.int p1), .val (.int p2), .val (.long q3), .second, .val (.int p4), .val (.ref b1), .val (.long dd), .second, .val (.long lo), .second, .val (.long hi), .second, .val (.int (1 : Int32))] [(.int p2), (.int p1), (.int (own_ct p1 p2 p2.toInt64))]))
    have hc211_26 : p2.toInt < p1.toInt := hc179_22
    refine OwnGo.fwd (fun tq' kq' => XS.icmpYes X25.here hx rfl (pc0 := 211) (pc' := 218) rfl (hb hby at_211) rfl (own_blt rfl rfl hc211_26).2.2.1 (by decide) (by decide) kq') ?_
    show OwnGo _ _ _ _ (T25.setTop (mkF m 218 #[.val (.int p1), .val (.int p2), .val (.long q3), .second, .val (.int p4), .val (.ref b1), .val (.long dd), .second, .val (.long lo), .second, .val (.long hi), .second, .val (.int (1 : Int32))] [(.int (own_ct p1 p2 p2.toInt64))]))
    refine OwnGo.fwd (fun tq' kq' => XS.iconst X25.here hx rfl (hb hby at_218) kq') ?_
    show OwnGo _ _ _ _ (T25.setTop (mkF m 219 #[.val (.int p1), .val (.int p2), .val (.long q3), .second, .val (.int p4), .val (.ref b1), .val (.long dd), .second, .val (.long lo), .second, .val (.long hi), .second, .val (.int (1 : Int32))] [(.int (0 : Int32)), (.int (own_ct p1 p2 p2.toInt64))]))
    have hc219_27 : (own_ct p1 p2 p2.toInt64).toInt = 0 := by rw [own_atB0 hc211_26]; decide
    refine OwnGo.fwd (fun tq' kq' => XS.icmpNo X25.here hx rfl (hb hby at_219) rfl (own_beq rfl (by decide) hc219_27).2 kq') ?_
    show OwnGo _ _ _ _ (T25.setTop (mkF m 222 #[.val (.int p1), .val (.int p2), .val (.long q3), .second, .val (.int p4), .val (.ref b1), .val (.long dd), .second, .val (.long lo), .second, .val (.long hi), .second, .val (.int (1 : Int32))] []))
    refine OwnGo.fwd (fun tq' kq' => XS.iconst X25.here hx rfl (hb hby at_222) kq') ?_
    show OwnGo _ _ _ _ (T25.setTop (mkF m 223 #[.val (.int p1), .val (.int p2), .val (.long q3), .second, .val (.int p4), .val (.ref b1), .val (.long dd), .second, .val (.long lo), .second, .val (.long hi), .second, .val (.int (1 : Int32))] [(.int (1 : Int32))]))
    refine OwnGo.fwd (fun tq' kq' => XS.goto X25.here hx rfl (pc0 := 223) (pc' := 227) rfl (hb hby at_223) (by decide) (by decide) kq') ?_
    show OwnGo _ _ _ _ (T25.setTop (mkF m 227 #[.val (.int p1), .val (.int p2), .val (.long q3), .second, .val (.int p4), .val (.ref b1), .val (.long dd), .second, .val (.long lo), .second, .val (.long hi), .second, .val (.int (1 : Int32))] [(.int (1 : Int32))]))
    refine OwnGo.fwd (fun tq' kq' => XS.istore X25.here hx rfl (hb hby at_227) rfl (l' := #[.val (.int p1), .val (.int p2), .val (.long q3), .second, .val (.int p4), .val (.ref b1), .val (.long dd), .second, .val (.long lo), .second, .val (.long hi), .second, .val (.int (1 : Int32))]) rfl kq') ?_
    show OwnGo _ _ _ _ (T25.setTop (mkF m 229 #[.val (.int p1), .val (.int p2), .val (.long q3), .second, .val (.int p4), .val (.ref b1), .val (.long dd), .second, .val (.long lo), .second, .val (.long hi), .second, .val (.int (1 : Int32))] []))
    refine OwnGo.fwd (fun tq' kq' => XS.iload X25.here hx rfl (hb hby at_229) rfl kq') ?_
    show OwnGo _ _ _ _ (T25.setTop (mkF m 231 #[.val (.int p1), .val (.int p2), .val (.long q3), .second, .val (.int p4), .val (.ref b1), .val (.long dd), .second, .val (.long lo), .second, .val (.long hi), .second, .val (.int (1 : Int32))] [(.int (1 : Int32))]))
    exact own_retZ X25 hlk hx Bd.returns (hb hby at_231) (by decide) (by decide) e25 ⟨rfl, N⟩
  · refine OwnGo.fwd (fun tq' kq' => XS.icmpNo X21.here hx rfl (hb hby at_179) rfl (own_bnlt rfl rfl hc179_22).2.2.1 kq') ?_
    show OwnGo _ _ _ _ (T21.setTop (mkF m 182 #[.val (.int p1), .val (.int p2), .val (.long q3), .second, .val (.int p4), .val (.ref b1), .val (.long dd), .second, .val (.long lo), .second, .val (.long hi), .second, .val (.int (1 : Int32))] [(.int (own_ct p1 p2 p1.toInt64))]))
    refine OwnGo.fwd (fun tq' kq' => XS.iconst X21.here hx rfl (hb hby at_182) kq') ?_
    show OwnGo _ _ _ _ (T21.setTop (mkF m 183 #[.val (.int p1), .val (.int p2), .val (.long q3), .second, .val (.int p4), .val (.ref b1), .val (.long dd), .second, .val (.long lo), .second, .val (.long hi), .second, .val (.int (1 : Int32))] [(.int (1 : Int32)), (.int (own_ct p1 p2 p1.toInt64))]))
    refine OwnGo.fwd (fun tq' kq' => XS.goto X21.here hx rfl (pc0 := 183) (pc' := 187) rfl (hb hby at_183) (by decide) (by decide) kq') ?_
    show OwnGo _ _ _ _ (T21.setTop (mkF m 187 #[.val (.int p1), .val (.int p2), .val (.long q3), .second, .val (.int p4), .val (.ref b1), .val (.long dd), .second, .val (.long lo), .second, .val (.long hi), .second, .val (.int (1 : Int32))] [(.int (1 : Int32)), (.int (own_ct p1 p2 p1.toInt64))]))
    have hc187_28 : (own_ct p1 p2 p1.toInt64).toInt = 1 := by rw [own_atA1 hc179_22]; decide
    refine OwnGo.fwd (fun tq' kq' => XS.icmpNo X21.here hx rfl (hb hby at_187) rfl (own_beq rfl (by decide) hc187_28).2 kq') ?_
    show OwnGo _ _ _ _ (T21.setTop (mkF m 190 #[.val (.int p1), .val (.int p2), .val (.long q3), .second, .val (.int p4), .val (.ref b1), .val (.long dd), .second, .val (.long lo), .second, .val (.long hi), .second, .val (.int (1 : Int32))] []))
    refine OwnGo.fwd (fun tq' kq' => XS.iconst X21.here hx rfl (hb hby at_190) kq') ?_
    show OwnGo _ _ _ _ (T21.setTop (mkF m 191 #[.val (.int p1), .val (.int p2), .val (.long q3), .second, .val (.int p4), .val (.ref b1), .val (.long dd), .second, .val (.long lo), .second, .val (.long hi), .second, .val (.int (1 : Int32))] [(.int (1 : Int32))]))
    refine OwnGo.fwd (fun tq' kq' => XS.goto X21.here hx rfl (pc0 := 191) (pc' := 195) rfl (hb hby at_191) (by decide) (by decide) kq') ?_
    show OwnGo _ _ _ _ (T21.setTop (mkF m 195 #[.val (.int p1), .val (.int p2), .val (.long q3), .second, .val (.int p4), .val (.ref b1), .val (.long dd), .second, .val (.long lo), .second, .val (.long hi), .second, .val (.int (1 : Int32))] [(.int (1 : Int32))]))
    refine OwnGo.fwd (fun tq' kq' => XS.istore X21.here hx rfl (hb hby at_195) rfl (l' := #[.val (.int p1), .val (.int p2), .val (.long q3), .second, .val (.int p4), .val (.ref b1), .val (.long dd), .second, .val (.long lo), .second, .val (.long hi), .second, .val (.int (1 : Int32))]) rfl kq') ?_
    show OwnGo _ _ _ _ (T21.setTop (mkF m 197 #[.val (.int p1), .val (.int p2), .val (.long q3), .second, .val (.int p4), .val (.ref b1), .val (.long dd), .second, .val (.long lo), .second, .val (.long hi), .second, .val (.int (1 : Int32))] []))
    refine OwnGo.fwd (fun tq' kq' => XS.iload X21.here hx rfl (hb hby at_197) rfl kq') ?_
    show OwnGo _ _ _ _ (T21.setTop (mkF m 199 #[.val (.int p1), .val (.int p2), .val (.long q3), .second, .val (.int p4), .val (.ref b1), .val (.long dd), .second, .val (.long lo), .second, .val (.long hi), .second, .val (.int (1 : Int32))] [(.int (1 : Int32))]))
    have hc199_29 : ¬ ((1 : Int) = (0 : Int)) := by decide
    refine OwnGo.fwd (fun tq' kq' => XS.ifNo X21.here hx rfl (hb hby at_199) rfl ((if0 _ _).trans (own_bneq (by decide) (by decide) hc199_29).1) kq') ?_
    show OwnGo _ _ _ _ (T21.setTop (mkF m 202 #[.val (.int p1), .val (.int p2), .val (.long q3), .second, .val (.int p4), .val (.ref b1), .val (.long dd), .second, .val (.long lo), .second, .val (.long hi), .second, .val (.int (1 : Int32))] []))
    refine OwnGo.fwd (fun tq' kq' => XS.aload X21.here hx rfl (hb hby at_202) rfl rfl kq') ?_
    show OwnGo _ _ _ _ (T21.setTop (mkF m 204 #[.val (.int p1), .val (.int p2), .val (.long q3), .second, .val (.int p4), .val (.ref b1), .val (.long dd), .second, .val (.long lo), .second, .val (.long hi), .second, .val (.int (1 : Int32))] [(.ref b1)]))
    refine OwnGo.fwd (fun tq' kq' => XS.iloadN X21.here hx rfl (hb hby at_204) rfl kq') ?_
    show OwnGo _ _ _ _ (T21.setTop (mkF m 205 #[.val (.int p1), .val (.int p2), .val (.long q3), .second, .val (.int p4), .val (.ref b1), .val (.long dd), .second, .val (.long lo), .second, .val (.long hi), .second, .val (.int (1 : Int32))] [(.int p2), (.ref b1)]))
    refine OwnGo.fwd (fun tq' kq' => XS.i2l X21.here hx rfl (hb hby at_205) rfl kq') ?_
    show OwnGo _ _ _ _ (T21.setTop (mkF m 206 #[.val (.int p1), .val (.int p2), .val (.long q3), .second, .val (.int p4), .val (.ref b1), .val (.long dd), .second, .val (.long lo), .second, .val (.long hi), .second, .val (.int (1 : Int32))] [(.long p2.toInt64), (.ref b1)]))
    obtain ⟨cq30, kq30, q30a, q30b, q30c⟩ := isOf hZ e21 E_b1
    obtain ⟨_, _, ⟨T30, L30, k30, n30⟩, -, X30, ⟨Lc30, hQ30, l30, y30, z30⟩, st30⟩ := X21.virtualBack hx (y := (⟨"com/example/cerrojo/cerrojo/Range", "contains", "(J)Z"⟩ : MethodName)) (z := (⟨"com/example/cerrojo/cerrojo/Range", "contains", "(J)Z"⟩ : MethodName)) hown (mvT hZ (hw _ (List.mem_of_getElem? (i := 19) rfl))) (mvT hZ (hw _ (List.mem_of_getElem? (i := 20) rfl))) (notFace_of_selects (args := #[]) (mvT hZ (hw _ (List.mem_of_getElem? (i := 22) rfl)))) (mvT hZ (hw _ (List.mem_of_getElem? (i := 22) rfl))) (mvT hZ (hw _ (List.mem_of_getElem? (i := 21) rfl))) (by decide) (backOf (W := 0) (rm4 l Z a0 hw [] b1 p1 p2 p2.toInt64 h2 n0 Zs F_low_b1 F_high_b1) hZ (hw _ (List.mem_of_getElem? (i := 23) rfl)) (hw _ (List.mem_of_getElem? (i := 2) rfl)) (by decide) (by decide)) q30a q30c (g := (mkF m 206 #[.val (.int p1), .val (.int p2), .val (.long q3), .second, .val (.int p4), .val (.ref b1), .val (.long dd), .second, .val (.long lo), .second, .val (.long hi), .second, .val (.int (1 : Int32))] [(.long p2.toInt64), (.ref b1)])) rfl (by rw [hml]; rfl) (Steps.refl _) (argsL := [(.long p2.toInt64)]) (rest := []) (lenOf pd_2 rfl) rfl (by show 2 * 0 + _ ≤ _; exact Nat.le_of_eq rfl) (hb hby at_206) (fun _ _ => ⟨rfl, e21, (by decide : 1 + 0 ≤ _), (by decide : 2 + 0 ≤ _)⟩)
    dsimp only [Pt.U, Pt.locs, Pt.cells, Pt.slots] at X30 l30 y30 z30 st30 hQ30
    subst l30 y30 z30
    obtain ⟨rfl, N30q, e30⟩ := hQ30
    have N := Fr.app N N30q
    refine OwnGo.thru st30 ?_
    show OwnGo _ _ _ _ (T30.setTop (mkF m 209 #[.val (.int p1), .val (.int p2), .val (.long q3), .second, .val (.int p4), .val (.ref b1), .val (.long dd), .second, .val (.long lo), .second, .val (.long hi), .second, .val (.int (1 : Int32))] [(.int (own_ct p1 p2 p2.toInt64))]))
    refine OwnGo.fwd (fun tq' kq' => XS.iloadN X30.here hx rfl (hb hby at_209) rfl kq') ?_
    show OwnGo _ _ _ _ (T30.setTop (mkF m 210 #[.val (.int p1), .val (.int p2), .val (.long q3), .second, .val (.int p4), .val (.ref b1), .val (.long dd), .second, .val (.long lo), .second, .val (.long hi), .second, .val (.int (1 : Int32))] [(.int p1), (.int (own_ct p1 p2 p2.toInt64))]))
    refine OwnGo.fwd (fun tq' kq' => XS.iloadN X30.here hx rfl (hb hby at_210) rfl kq') ?_
    show OwnGo _ _ _ _ (T30.setTop (mkF m 211 #[.val (.int p1), .val (.int p2), .val (.long q3), .second, .val (.int p4), .val (.ref b1), .val (.long dd), .second, .val (.long lo), .second, .val (.long hi), .second, .val (.int (1 : Int32))] [(.int p2), (.int p1), (.int (own_ct p1 p2 p2.toInt64))]))
    have hc211_31 : ¬ (p2.toInt < p1.toInt) := hc179_22
    refine OwnGo.fwd (fun tq' kq' => XS.icmpNo X30.here hx rfl (hb hby at_211) rfl (own_bnlt rfl rfl hc211_31).2.2.1 kq') ?_
    show OwnGo _ _ _ _ (T30.setTop (mkF m 214 #[.val (.int p1), .val (.int p2), .val (.long q3), .second, .val (.int p4), .val (.ref b1), .val (.long dd), .second, .val (.long lo), .second, .val (.long hi), .second, .val (.int (1 : Int32))] [(.int (own_ct p1 p2 p2.toInt64))]))
    refine OwnGo.fwd (fun tq' kq' => XS.iconst X30.here hx rfl (hb hby at_214) kq') ?_
    show OwnGo _ _ _ _ (T30.setTop (mkF m 215 #[.val (.int p1), .val (.int p2), .val (.long q3), .second, .val (.int p4), .val (.ref b1), .val (.long dd), .second, .val (.long lo), .second, .val (.long hi), .second, .val (.int (1 : Int32))] [(.int (1 : Int32)), (.int (own_ct p1 p2 p2.toInt64))]))
    refine OwnGo.fwd (fun tq' kq' => XS.goto X30.here hx rfl (pc0 := 215) (pc' := 219) rfl (hb hby at_215) (by decide) (by decide) kq') ?_
    show OwnGo _ _ _ _ (T30.setTop (mkF m 219 #[.val (.int p1), .val (.int p2), .val (.long q3), .second, .val (.int p4), .val (.ref b1), .val (.long dd), .second, .val (.long lo), .second, .val (.long hi), .second, .val (.int (1 : Int32))] [(.int (1 : Int32)), (.int (own_ct p1 p2 p2.toInt64))]))
    have hc219_32 : (own_ct p1 p2 p2.toInt64).toInt = 1 := by rw [own_atB1 hc211_31]; decide
    refine OwnGo.fwd (fun tq' kq' => XS.icmpNo X30.here hx rfl (hb hby at_219) rfl (own_beq rfl (by decide) hc219_32).2 kq') ?_
    show OwnGo _ _ _ _ (T30.setTop (mkF m 222 #[.val (.int p1), .val (.int p2), .val (.long q3), .second, .val (.int p4), .val (.ref b1), .val (.long dd), .second, .val (.long lo), .second, .val (.long hi), .second, .val (.int (1 : Int32))] []))
    refine OwnGo.fwd (fun tq' kq' => XS.iconst X30.here hx rfl (hb hby at_222) kq') ?_
    show OwnGo _ _ _ _ (T30.setTop (mkF m 223 #[.val (.int p1), .val (.int p2), .val (.long q3), .second, .val (.int p4), .val (.ref b1), .val (.long dd), .second, .val (.long lo), .second, .val (.long hi), .second, .val (.int (1 : Int32))] [(.int (1 : Int32))]))
    refine OwnGo.fwd (fun tq' kq' => XS.goto X30.here hx rfl (pc0 := 223) (pc' := 227) rfl (hb hby at_223) (by decide) (by decide) kq') ?_
    show OwnGo _ _ _ _ (T30.setTop (mkF m 227 #[.val (.int p1), .val (.int p2), .val (.long q3), .second, .val (.int p4), .val (.ref b1), .val (.long dd), .second, .val (.long lo), .second, .val (.long hi), .second, .val (.int (1 : Int32))] [(.int (1 : Int32))]))
    refine OwnGo.fwd (fun tq' kq' => XS.istore X30.here hx rfl (hb hby at_227) rfl (l' := #[.val (.int p1), .val (.int p2), .val (.long q3), .second, .val (.int p4), .val (.ref b1), .val (.long dd), .second, .val (.long lo), .second, .val (.long hi), .second, .val (.int (1 : Int32))]) rfl kq') ?_
    show OwnGo _ _ _ _ (T30.setTop (mkF m 229 #[.val (.int p1), .val (.int p2), .val (.long q3), .second, .val (.int p4), .val (.ref b1), .val (.long dd), .second, .val (.long lo), .second, .val (.long hi), .second, .val (.int (1 : Int32))] []))
    refine OwnGo.fwd (fun tq' kq' => XS.iload X30.here hx rfl (hb hby at_229) rfl kq') ?_
    show OwnGo _ _ _ _ (T30.setTop (mkF m 231 #[.val (.int p1), .val (.int p2), .val (.long q3), .second, .val (.int p4), .val (.ref b1), .val (.long dd), .second, .val (.long lo), .second, .val (.long hi), .second, .val (.int (1 : Int32))] [(.int (1 : Int32))]))
    exact own_retZ X30 hlk hx Bd.returns (hb hby at_231) (by decide) (by decide) e30 ⟨rfl, N⟩
set_option maxRecDepth 65536 in
set_option maxHeartbeats 40000000 in
theorem comes_1 {Post : Tables → Env → Array Value → State → Outcome → State → Prop} (hpost : ∀ tb e args s v u, (limb_1_1.after args s (.returned v) u = true ∧ limb_1_2.after args s (.returned v) u = true ∧ True) → FrameEnd s (.returned v) u (Jvm.fieldLocs frame_1_writes args s ++ Jvm.arrayLocs frame_1_arrays args s ++ Jvm.staticLocs frame_1_statics s) 16 128 → Post tb e args s (.returned v) u) :
    ArmFor flags0 classFile x code maxLocals ret World_1 tables_1 room_1 Calls_1 rest_1 Pre_1 Post := by
  intro l hfl _ _ p e ha hc hk s m args below hf hA hF happ hP
  obtain ⟨hcalls, hrest, hpre⟩ := hP
  obtain ⟨-, -, -, hnamed, -, -, -, hat⟩ := (Spec.applies_iff hf).mp happ
  obtain ⟨hg, hn⟩ := and_e (Cond.before_iff.mp (show (Jvm.Cond.and given_1 narrow_1).before args s = true from hpre))
  obtain ⟨gc, gr0⟩ := and_e hg
  obtain ⟨ga0, gr1⟩ := and_e gr0
  obtain ⟨ga1, gr2⟩ := and_e gr1
  obtain ⟨ga2, gr3⟩ := and_e gr2
  obtain ⟨w0, w1, w2, w3, rfl⟩ : ∃ w0 w1 w2 w3 : Value, args = #[w0, w1, w2, w3] := by
    have hs : args.size = 4 := by simpa [Cond.value, given_1] using gc
    obtain ⟨L⟩ := args
    match L, hs with
    | [w0, w1, w2, w3], _ => exact ⟨w0, w1, w2, w3, rfl⟩
  have hw := fun d (hd : d ∈ tables_1) => atoms_spec (ws := Jvm.Cond.code x code maxLocals ret :: tables_1) hat d (List.mem_cons_of_mem _ hd)
  have hfit : Fit s := fun {y c} hc i hi => by
    obtain ⟨ha, rfl⟩ := Array.getElem?_eq_some_iff.mp hc
    have q := List.all_eq_true.mp ((Array.all_eq_true_iff_forall_mem.mp hF) _ (Array.getElem_mem ha)) i (List.mem_range.mpr hi)
    simpa [Array.getElem?_eq_getElem hi] using q
  obtain ⟨i0, ei0⟩ := is_v ga0
  obtain rfl : w0 = (.int i0) := Option.some.inj ei0
  obtain ⟨i1, ei1⟩ := is_v ga1
  obtain rfl : w1 = (.int i1) := Option.some.inj ei1
  obtain ⟨i2, ei2⟩ := isL_v ga2
  obtain rfl : w2 = (.long i2) := Option.some.inj ei2
  obtain ⟨i3, ei3⟩ := is_v gr3
  obtain rfl : w3 = (.int i3) := Option.some.inj ei3
  obtain ⟨n, o, h1, h2, h3, _, L, rfl, ⟨rfl, N⟩, hq⟩ := rm0 l s _ hw tables_1 i0 i1 i2 i3 s.heap s.heap.size (Nat.le_refl _) p e ha hc hk s m _ below hf ((Spec.applies_iff_loose hf).mp happ).1 ⟨rfl, State.Warmed39.refl s, rfl⟩ trivial
  refine ⟨n, _, h1, h2, h3, hpost _ _ _ _ _ _ ⟨Cond.after_iff.mpr rfl, Cond.after_iff.mpr (eq_i res_at (Term.int_eval (1)) rfl), trivial⟩ ⟨hq.1, hq.2.1, (hq.2.2.sift fun y hy => Or.inr (N y hy)).mono (by decide) (by decide)⟩⟩
theorem main_1_1 : Claimed_1_1 := comes_1 fun _ _ _ _ _ _ h hF => ⟨h.1, hF⟩
theorem main_1_2 : Claimed_1_2 := comes_1 fun _ _ _ _ _ _ h hF => ⟨h.2.1, hF⟩
end Jvm.Pilot.@@N@@
namespace Jvm.Pilot.@@N@@
open Jvm Jvm.ClassFile Sem Op Lib Jvm.Free Jvm.Stand Jvm.Pilot.@@N@@.Jvm.D
/-! MADE BY PROGRAM (witnessworld.py) out of the Statement's table words and the real class files: 10 classes; the members and pool entries that the words name. The judged class is class 1, her method 1. -/
namespace start1
open Jvm.ClassFile
def u (s : String) : CpInfo := .utf8 (stringToUtf16 s)
/-- a pool by its gaps: so many unusable entries, then the entry; so many at the end -/
def gap : Nat → List CpInfo → List CpInfo
  | 0, r => r
  | n + 1, r => .unusable :: gap n r
def poolList (es : List (Nat × CpInfo)) (last : Nat) : List CpInfo := es.foldr (fun e r => gap e.1 (e.2 :: r)) (gap last [])
def pool (es : List (Nat × CpInfo)) (last : Nat) : Array CpInfo := ⟨poolList es last⟩
def fileOf (pool : Array CpInfo) (this : Nat) (attrs : Array Attribute := #[]) (ms : Array MethodInfo := #[]) (fl : Nat := 33) (sup : Nat := 0) (ifs : Array Nat := #[]) (fds : Array FieldInfo := #[]) : ClassFile where
  minorVersion := 0
  majorVersion := 65
  constantPool := pool
  accessFlags := fl
  thisClass := this
  superClass := sup
  interfaces := ifs
  fields := fds
  methods := ms
  attributes := attrs
def plain (name : String) (sup : Option ClassId) : Class where
  name := name
  kind := .ordinary
  loader := none
  accessFlags := 33
  super := sup
  interfaces := #[]
  cf := none
  fields := #[]
  methods := #[]
  instanceTypes := #[]
  staticTypes := #[]
  resolved := #[]
  callSites := []
  init := .initialized
  statics := none
  mirror := none

def pool0 : Array CpInfo := pool [(5, u "<init>"), (0, u "()V"), (1, .class_ 10), (1, u "java/lang/Object")] 113

def k0c0 : Code := { maxStack := 0, maxLocals := 1, code := object_method_1_code, exceptionTable := #[], attributes := #[] }
def k0m0 : Method := { name := "<init>", desc := "()V", sig := { parameters := [], returnType := none }, accessFlags := 1, code := some k0c0 }
/-- java/lang/Object -/
def k0 : Class := { plain "java/lang/Object" none with
  accessFlags := 33
  interfaces := #[]
  cf := some (fileOf pool0 8 #[] #[{ accessFlags := 1, nameIndex := 5, descriptorIndex := 6, attributes := #[] }] 33 0 #[] #[])
  fields := #[]
  methods := #[k0m0]
  instanceTypes := #[]
  staticTypes := #[]
  resolved := Array.replicate 124 none
  statics := none }

def pool1 : Array CpInfo := pool [(2, .class_ 4), (1, u "java/lang/Object"), (0, u "<init>"), (0, u "()V"), (0, .class_ 8), (0, u "com/example/cerrojo/cerrojo/Range"), (0, .methodref 7 10), (0, .nameAndType 5 11), (0, u "(II)V"), (0, .integer 2147483647), (0, .methodref 7 14), (0, .nameAndType 15 16), (0, u "contains"), (0, u "(J)Z"), (0, .methodref 18 19), (0, .class_ 20), (0, .nameAndType 21 22), (0, u "com/example/cerrojo/cerrojo/RangeContainsPinLaw"), (0, u "ref"), (0, u "(IIJ)Z"), (2, .long 9223372036854775808), (3, u "law"), (0, u "(IIJI)Z")] 3

def k1m0 : Method := { name := "<init>", desc := "()V", sig := { parameters := [], returnType := none }, accessFlags := 1, code := none }
def k1c1 : Code := { maxStack := 5, maxLocals := 13, code := code, exceptionTable := #[], attributes := #[] }
def k1m1 : Method := { name := "law", desc := "(IIJI)Z", sig := { parameters := [.int, .int, .long, .int], returnType := some .boolean }, accessFlags := 9, code := some k1c1 }
def k1c2 : Code := { maxStack := 6, maxLocals := 8, code := method_3_code, exceptionTable := #[], attributes := #[] }
def k1m2 : Method := { name := "ref", desc := "(IIJ)Z", sig := { parameters := [.int, .int, .long], returnType := some .boolean }, accessFlags := 10, code := some k1c2 }
/-- com/example/cerrojo/cerrojo/RangeContainsPinLaw -/
def k1 : Class := { plain "com/example/cerrojo/cerrojo/RangeContainsPinLaw" (some 0) with
  accessFlags := 49
  interfaces := #[]
  cf := some (fileOf pool1 18 #[] #[{ accessFlags := 1, nameIndex := 5, descriptorIndex := 6, attributes := #[] }, { accessFlags := 9, nameIndex := 29, descriptorIndex := 30, attributes := #[] }, { accessFlags := 10, nameIndex := 21, descriptorIndex := 22, attributes := #[] }] 49 2 #[] #[])
  fields := #[]
  methods := #[k1m0, k1m1, k1m2]
  instanceTypes := #[]
  staticTypes := #[]
  resolved := Array.replicate 34 none
  statics := none }

def pool2 : Array CpInfo := pool [(1, .methodref 2 3), (0, .class_ 4), (0, .nameAndType 5 6), (0, u "java/lang/Object"), (0, u "<init>"), (0, u "()V"), (0, .class_ 8), (0, u "java/lang/Record")] 13

def k2c0 : Code := { maxStack := 1, maxLocals := 1, code := jdk_30_method_1_code, exceptionTable := #[], attributes := #[] }
def k2m0 : Method := { name := "<init>", desc := "()V", sig := { parameters := [], returnType := none }, accessFlags := 4, code := some k2c0 }
/-- java/lang/Record -/
def k2 : Class := { plain "java/lang/Record" (some 0) with
  accessFlags := 1057
  interfaces := #[]
  cf := some (fileOf pool2 7 #[] #[{ accessFlags := 4, nameIndex := 5, descriptorIndex := 6, attributes := #[] }] 1057 2 #[] #[])
  fields := #[]
  methods := #[k2m0]
  instanceTypes := #[]
  staticTypes := #[]
  resolved := Array.replicate 22 none
  statics := none }

def pool3 : Array CpInfo := pool [(1, .methodref 2 3), (0, .class_ 4), (0, .nameAndType 5 6), (0, u "java/lang/Record"), (0, u "<init>"), (0, u "()V"), (0, .fieldref 8 9), (0, .class_ 10), (0, .nameAndType 11 12), (0, u "com/example/cerrojo/cerrojo/Range"), (0, u "low"), (0, u "I"), (0, .fieldref 8 14), (0, .nameAndType 15 12), (0, u "high"), (8, u "(II)V"), (6, u "contains"), (0, u "(J)Z")] 52

def k3c0 : Code := { maxStack := 2, maxLocals := 3, code := prog_67_method_1_code, exceptionTable := #[], attributes := #[] }
def k3m0 : Method := { name := "<init>", desc := "(II)V", sig := { parameters := [.int, .int], returnType := none }, accessFlags := 0, code := some k3c0 }
def k3c1 : Code := { maxStack := 4, maxLocals := 3, code := prog_67_method_3_code, exceptionTable := #[], attributes := #[] }
def k3m1 : Method := { name := "contains", desc := "(J)Z", sig := { parameters := [.long], returnType := some .boolean }, accessFlags := 0, code := some k3c1 }
/-- com/example/cerrojo/cerrojo/Range -/
def k3 : Class := { plain "com/example/cerrojo/cerrojo/Range" (some 2) with
  accessFlags := 48
  interfaces := #[]
  cf := some (fileOf pool3 8 #[] #[{ accessFlags := 0, nameIndex := 5, descriptorIndex := 24, attributes := #[] }, { accessFlags := 0, nameIndex := 31, descriptorIndex := 32, attributes := #[] }] 48 2 #[] #[{ accessFlags := 18, nameIndex := 11, descriptorIndex := 12, attributes := #[] }, { accessFlags := 18, nameIndex := 15, descriptorIndex := 12, attributes := #[] }])
  fields := #[{ name := "low", type := .int, accessFlags := 18, slot := 0, constantValue := 0 }, { name := "high", type := .int, accessFlags := 18, slot := 1, constantValue := 0 }]
  methods := #[k3m0, k3m1]
  instanceTypes := #[.int, .int]
  staticTypes := #[]
  resolved := Array.replicate 85 none
  statics := none }

def pool4 : Array CpInfo := pool [(1, u "java/lang/Cloneable"), (0, .class_ 1), (0, u "java/lang/Object"), (0, .class_ 3)] 3

/-- java/lang/Cloneable -/
def k4 : Class := { plain "java/lang/Cloneable" (some 0) with
  accessFlags := 1537
  interfaces := #[]
  cf := some (fileOf pool4 2 #[] #[] 1537 4 #[] #[])
  fields := #[]
  methods := #[]
  instanceTypes := #[]
  staticTypes := #[]
  resolved := Array.replicate 8 none
  statics := none }

def pool5 : Array CpInfo := pool [(1, u "java/io/Serializable"), (0, .class_ 1), (0, u "java/lang/Object"), (0, .class_ 3)] 3

/-- java/io/Serializable -/
def k5 : Class := { plain "java/io/Serializable" (some 0) with
  accessFlags := 1537
  interfaces := #[]
  cf := some (fileOf pool5 2 #[] #[] 1537 4 #[] #[])
  fields := #[]
  methods := #[]
  instanceTypes := #[]
  staticTypes := #[]
  resolved := Array.replicate 8 none
  statics := none }

/-- the primitive byte -/
def k6 : Class := { plain "byte" none with kind := .primitive 'B', accessFlags := 0x411 }
/-- [B -/
def k7 : Class := { plain "[B" (some 0) with kind := .array 6 .byte, interfaces := #[4, 5], accessFlags := 1041 }

/-- the primitive int -/
def k8 : Class := { plain "int" none with kind := .primitive 'I', accessFlags := 0x411 }
/-- [I -/
def k9 : Class := { plain "[I" (some 0) with kind := .array 8 .int, interfaces := #[4, 5], accessFlags := 1041 }

def heap : Heap := #[]
def classes : Array Class := #[k0, k1, k2, k3, k4, k5, k6, k7, k8, k9]
def interned : List (Array UInt16 × Addr) := []
def slotsUsed : Nat := 0
def theMethod : MethodId := ⟨1, 1⟩
def args0 : Array Value := #[.int 3, .int 9, .long 5, .int 4]
def aboutOver (below : List Frame) : State where
  vm := { classes := classes, interned := interned.toArray }
  heap := heap
  slotsUsed := slotsUsed
  threads := #[{ frames := .invoking theMethod args0 :: below }]
def below0 : List Frame := [.native { method := ⟨0, 0⟩, args := #[] }]
def about1 : State := aboutOver below0
def p0 : Program := .bare "" "" ""
def e0 : Env := launch0.env 0 0 0
theorem w_frames : about1.frames = Frame.invoking theMethod args0 :: below0 := rfl
set_option maxRecDepth 65536 in
theorem w_args : argsFit about1.vm theMethod args0 = true := by decide +kernel
set_option maxRecDepth 65536 in
theorem w_heap : heapFits about1 = true := by decide +kernel
set_option maxRecDepth 65536 in
theorem w_runnable : about1.curStatus? = some .runnable := by decide +kernel
set_option maxRecDepth 65536 in
theorem w_alone : about1.alone = true := by decide +kernel
set_option maxRecDepth 65536 in
theorem w_named : about1.methodNamed? x = some theMethod := by decide +kernel
set_option maxRecDepth 65536 in
theorem w_hears : about1.hears theMethod below0 = true := by decide +kernel
set_option maxRecDepth 65536 in
theorem w_ripe : about1.ripe theMethod args0 below0 = true := by decide +kernel
theorem w_running : about1.status = .running := rfl
set_option maxRecDepth 65536 in
theorem w_room : about1.hasRoom e0.platform room_1 = true :=
  launch0.hasRoom_least _ room_1 (by decide +kernel) (by decide +kernel) (by decide +kernel) (by decide +kernel) (by decide +kernel) (by decide +kernel)
theorem allAtoms_all (ts : List Jvm.Cond) (a : Array Jvm.Value) (st : Jvm.State) : (allAtoms ts).before a st = ts.all (fun c => c.before a st) := by
  induction ts with
  | nil => rfl
  | cons c t ih =>
    show (Jvm.Cond.and c (allAtoms t)).before a st = _
    rw [Jvm.Cond.before_and, ih, List.all_cons]
def words1 : List Jvm.Cond := Jvm.Cond.code x code maxLocals ret :: tables_1
/-- a 'code' word, met by the world's own term for the bytes: nothing is compared byte by byte -/
theorem code_word {y : MethodName} {bytes : ByteArray} {mx : Nat} {rt : Option FieldType} {a : Array Value} {s : State} {m : MethodId} {meth : Method} {c : Code} (h1 : s.methodNamed? y = some m) (h2 : s.vm.method? m = some meth) (h3 : meth.code = some c) (h4 : c.code = bytes)
    (h5 : (c.maxLocals == mx && c.exceptionTable.isEmpty && decide (c.maxStack ≤ mostOperands) && decide (meth.sig.returnType = rt) && !meth.locks && decide (parseMethodDescriptor y.desc = some meth.sig)) = true) : (Jvm.Cond.code y bytes mx rt).before a s = true := by
  simp only [Bool.and_eq_true, beq_iff_eq, Bool.not_eq_true', decide_eq_true_eq] at h5
  obtain ⟨⟨⟨⟨⟨g1, g2⟩, g3⟩, g4⟩, g5⟩, g6⟩ := h5
  simp [Cond.before, Cond.holds, Cond.value, h1, h2, h3, h4, g1, g2, g3, g4, g5, g6]
def isCode : Jvm.Cond → Bool
  | .code _ _ _ _ => true
  | _ => false
theorem all_split {L : List Jvm.Cond} {P : Jvm.Cond → Bool} (h1 : L.all (fun c => isCode c || P c) = true) (h2 : ∀ c ∈ L.filter isCode, P c = true) : L.all P = true := by
  refine List.all_eq_true.mpr fun c hc => ?_
  have h := List.all_eq_true.mp h1 c hc
  rcases Bool.eq_false_or_eq_true (isCode c) with hi | hi
  · exact h2 c (List.mem_filter.mpr ⟨hc, hi⟩)
  · simpa [hi] using h
set_option maxRecDepth 65536 in
theorem w_c0 : (Jvm.Cond.code x code maxLocals ret).before args0 about1 = true := code_word (m := ⟨1, 1⟩) (meth := k1m1) (c := k1c1) (by decide +kernel) rfl rfl rfl (by decide +kernel)
set_option maxRecDepth 65536 in
theorem w_c1 : (Jvm.Cond.code ({ cls := "com/example/cerrojo/cerrojo/Range", name := "<init>", desc := "(II)V" } : Jvm.MethodName) prog_67_method_1_code (3 : Nat) (Option.none : Option Jvm.ClassFile.FieldType)).before args0 about1 = true := code_word (m := ⟨3, 0⟩) (meth := k3m0) (c := k3c0) (by decide +kernel) rfl rfl rfl (by decide +kernel)
set_option maxRecDepth 65536 in
theorem w_c2 : (Jvm.Cond.code ({ cls := "java/lang/Record", name := "<init>", desc := "()V" } : Jvm.MethodName) jdk_30_method_1_code (1 : Nat) (Option.none : Option Jvm.ClassFile.FieldType)).before args0 about1 = true := code_word (m := ⟨2, 0⟩) (meth := k2m0) (c := k2c0) (by decide +kernel) rfl rfl rfl (by decide +kernel)
set_option maxRecDepth 65536 in
theorem w_c3 : (Jvm.Cond.code ({ cls := "java/lang/Object", name := "<init>", desc := "()V" } : Jvm.MethodName) object_method_1_code (1 : Nat) (Option.none : Option Jvm.ClassFile.FieldType)).before args0 about1 = true := code_word (m := ⟨0, 0⟩) (meth := k0m0) (c := k0c0) (by decide +kernel) rfl rfl rfl (by decide +kernel)
set_option maxRecDepth 65536 in
theorem w_c4 : (Jvm.Cond.code ({ cls := "com/example/cerrojo/cerrojo/Range", name := "contains", desc := "(J)Z" } : Jvm.MethodName) prog_67_method_3_code (3 : Nat) (Option.some Jvm.ClassFile.FieldType.boolean)).before args0 about1 = true := code_word (m := ⟨3, 1⟩) (meth := k3m1) (c := k3c1) (by decide +kernel) rfl rfl rfl (by decide +kernel)
set_option maxRecDepth 65536 in
theorem w_c5 : (Jvm.Cond.code ({ cls := "com/example/cerrojo/cerrojo/RangeContainsPinLaw", name := "ref", desc := "(IIJ)Z" } : Jvm.MethodName) method_3_code (8 : Nat) (Option.some Jvm.ClassFile.FieldType.boolean)).before args0 about1 = true := code_word (m := ⟨1, 2⟩) (meth := k1m2) (c := k1c2) (by decide +kernel) rfl rfl rfl (by decide +kernel)
def codes1 : List Jvm.Cond := [Jvm.Cond.code x code maxLocals ret, Jvm.Cond.code ({ cls := "com/example/cerrojo/cerrojo/Range", name := "<init>", desc := "(II)V" } : Jvm.MethodName) prog_67_method_1_code (3 : Nat) (Option.none : Option Jvm.ClassFile.FieldType), Jvm.Cond.code ({ cls := "java/lang/Record", name := "<init>", desc := "()V" } : Jvm.MethodName) jdk_30_method_1_code (1 : Nat) (Option.none : Option Jvm.ClassFile.FieldType), Jvm.Cond.code ({ cls := "java/lang/Object", name := "<init>", desc := "()V" } : Jvm.MethodName) object_method_1_code (1 : Nat) (Option.none : Option Jvm.ClassFile.FieldType), Jvm.Cond.code ({ cls := "com/example/cerrojo/cerrojo/Range", name := "contains", desc := "(J)Z" } : Jvm.MethodName) prog_67_method_3_code (3 : Nat) (Option.some Jvm.ClassFile.FieldType.boolean), Jvm.Cond.code ({ cls := "com/example/cerrojo/cerrojo/RangeContainsPinLaw", name := "ref", desc := "(IIJ)Z" } : Jvm.MethodName) method_3_code (8 : Nat) (Option.some Jvm.ClassFile.FieldType.boolean)]
set_option maxRecDepth 65536 in
theorem codes_eq : words1.filter isCode = codes1 := rfl
theorem w_codes : ∀ c ∈ words1.filter isCode, c.before args0 about1 = true := by
  rw [codes_eq]
  intro c hc
  simp only [codes1, List.mem_cons, List.not_mem_nil, or_false] at hc
  rcases hc with rfl | rfl | rfl | rfl | rfl | rfl
  · exact w_c0
  · exact w_c1
  · exact w_c2
  · exact w_c3
  · exact w_c4
  · exact w_c5
set_option maxRecDepth 65536 in
theorem w_t1 : (words1.take 24).all (fun c => isCode c || c.before args0 about1) = true := by decide +kernel
set_option maxRecDepth 65536 in
theorem w_t2 : (words1.drop 24).all (fun c => isCode c || c.before args0 about1) = true := by decide +kernel
theorem w_tables : (allAtoms (Jvm.Cond.code x code maxLocals ret :: tables_1)).before args0 about1 = true := by
  rw [allAtoms_all]
  show words1.all (fun c => c.before args0 about1) = true
  refine all_split ?_ w_codes
  rw [← List.take_append_drop 24 words1, List.all_append, w_t1, w_t2]
  rfl
set_option maxRecDepth 65536 in
theorem w_case : (Jvm.Cond.and given_1 narrow_1).before args0 about1 = true := by decide +kernel
theorem w_applies : (headSpec (Jvm.Cond.code x code maxLocals ret :: tables_1) room_1).applies x e0.platform about1 = true :=
  (Spec.applies_iff w_frames).mpr ⟨w_running, w_runnable, w_alone, w_named, w_hears, w_ripe, w_room, w_tables⟩
theorem atStart : AtStart classFile x code maxLocals ret World_1 tables_1 room_1 Calls_1 rest_1 Pre_1 launch0 p0 e0 about1 theMethod args0 below0 :=
  ⟨lists_1, trivial, launch0.admits_env _ _ _, launch0.least_env, fairChoices_fair.cas, fairChoices_fair.clock, w_frames, w_args, w_heap, w_applies, trivial, trivial, w_case⟩
end start1
theorem witness_1 : WitnessClaimed_1 := ⟨start1.p0, start1.e0, start1.about1, start1.theMethod, start1.args0, start1.below0, start1.atStart⟩
end Jvm.Pilot.@@N@@
