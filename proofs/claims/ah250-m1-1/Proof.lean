import JvmDerived
import JvmDerived.Pilot.@@N@@Statement
import JvmDerived.Pilot.@@N@@Code
set_option linter.unusedVariables false
set_option linter.unusedSimpArgs false
namespace Jvm.RoadKit
open Sem ClassFile Op Lib Jvm.Stand Jvm.Free Jvm.LawKit
/-- own: from A the walk comes to its end, and there R holds -/
def OwnGo (tb : Tables) (e : Env) (below : List Frame) (R : State → Outcome → Prop) (A : State) : Prop := ∃ s₂ o, Steps tb e below A s₂ ∧ s₂.status = .running ∧ Ended s₂ below o ∧ R s₂ o
theorem OwnGo.fwd {tb : Tables} {e : Env} {below : List Frame} {R : State → Outcome → Prop} {A B : State} (h : ∀ t, Steps tb e below B t → Steps tb e below A t) (k : OwnGo tb e below R B) : OwnGo tb e below R A := by
  obtain ⟨s, o, h1, h2⟩ := k
  exact ⟨s, o, h s h1, h2⟩
theorem OwnGo.thru {tb : Tables} {e : Env} {below : List Frame} {R : State → Outcome → Prop} {A B : State} (h : Steps tb e below A B) (k : OwnGo tb e below R B) : OwnGo tb e below R A := k.fwd fun _ q => h.trans q
/-- own: what a body leaves -/
def OwnEnd (s : State) (Q : Option Value → Heap → List Loc → Prop) (k n : Nat) : State → Outcome → Prop := fun U o => ∃ v L, o = .returned v ∧ Q v U.heap L ∧ FrameEnd s o U L k n
section OwnLeaf
variable {p : Program} {l : Launch} {e : Env} {R : Room} {s : State} {m : MethodId} {args : Array Value} {below : List Frame} {meth : Method} {c : Code} {T : State} {locs : List Loc} {cells slots : Nat} {Z : State} {a0 : Array Value} {h : Heap} {Q : Option Value → Heap → List Loc → Prop} {k n : Nat}
theorem own_leaf (X : Stand p l e R s m args below meth c T locs cells slots) (hlk : meth.locks = false) {v : Option Value} (hv : meth.sig.returnType = none → v = none) {g : JFrame} (hc : cells ≤ k) (hs : slots ≤ n) (eT : T.heap = h) (hQ : Q v h locs)
    (hl : ∀ fs, (∀ (f : JFrame) (acts : List Action), f.method = m → f.locked = none → f.entered = [] → (doReturn e (T.setTop f) acts v).1 = T.setFrames fs) → Steps p.tables e below (T.setTop g) (T.setFrames fs)) :
    OwnGo p.tables e below (OwnEnd s Q k n) (T.setTop g) := by
  obtain ⟨fs, hr, hrun, hended, hW, hsame⟩ := X.leave (v := v) hv hlk
  refine ⟨_, _, hl fs hr, hrun, hended, _, _, rfl, ?_, ⟨_, rfl⟩, hW, hsame.mono hc hs⟩
  show Q v T.heap locs
  rw [eT]; exact hQ
theorem own_retI (X : Stand p l e R s m args below meth c T locs cells slots) (hlk : meth.locks = false) (hx : p.tables.exec = Jvm.exec) {pc : Nat} {Ls : Array Slot} {z : Int32} {rest : List Value} (hret : meth.sig.returnType = some .int) (hd : decode c.code pc = .ok (.ireturn, 1)) (hc : cells ≤ k) (hs : slots ≤ n) (eT : T.heap = h) (hQ : Q (some (.int z)) h locs) :
    OwnGo p.tables e below (OwnEnd s Q k n) (T.setTop (mkF m pc Ls (.int z :: rest))) := by
  refine own_leaf X hlk (fun q => by rw [hret] at q; cases q) hc hs eT hQ fun fs hl => ?_
  have hm' : T.vm.method? m = some meth := X.method'
  have hn : narrow .int (.int z) = .int z := rfl
  show Steps p.tables e below (T.setTop { method := m, pc := pc, locals := Ls, stack := _ :: rest, locked := none }) _
  jvm_step X.here [X.here.top, hx, hd, hm', hret, hn]
  first | (intro acts; rw [hl _ acts rfl rfl rfl]) | rw [hl _ _ rfl rfl rfl]
  exact Steps.refl _
theorem own_retZ (X : Stand p l e R s m args below meth c T locs cells slots) (hlk : meth.locks = false) (hx : p.tables.exec = Jvm.exec) {pc : Nat} {Ls : Array Slot} {z : Int32} {rest : List Value} (hret : meth.sig.returnType = some .boolean) (hd : decode c.code pc = .ok (.ireturn, 1)) (hc : cells ≤ k) (hs : slots ≤ n) (eT : T.heap = h) (hQ : Q (some (.int (nar .boolean z))) h locs) :
    OwnGo p.tables e below (OwnEnd s Q k n) (T.setTop (mkF m pc Ls (.int z :: rest))) :=
  own_leaf X hlk (fun q => by rw [hret] at q; cases q) hc hs eT hQ fun fs hl => retN X hx (t := .boolean) hret (by simp) hd hl
theorem own_retJ (X : Stand p l e R s m args below meth c T locs cells slots) (hlk : meth.locks = false) (hx : p.tables.exec = Jvm.exec) {pc : Nat} {Ls : Array Slot} {z : Int64} (hret : meth.sig.returnType = some .long) (hd : decode c.code pc = .ok (.lreturn, 1)) (hc : cells ≤ k) (hs : slots ≤ n) (eT : T.heap = h) (hQ : Q (some (.long z)) h locs) :
    OwnGo p.tables e below (OwnEnd s Q k n) (T.setTop (mkF m pc Ls [.long z])) :=
  own_leaf X hlk (fun q => by rw [hret] at q; cases q) hc hs eT hQ fun fs hl => X.lreturnOut hx hret hd hl
theorem own_retV (X : Stand p l e R s m args below meth c T locs cells slots) (hlk : meth.locks = false) (hx : p.tables.exec = Jvm.exec) {pc : Nat} {Ls : Array Slot} (hret : meth.sig.returnType = none) (hd : decode c.code pc = .ok (.return_, 1)) (hc : cells ≤ k) (hs : slots ≤ n) (eT : T.heap = h) (hQ : Q none h locs) :
    OwnGo p.tables e below (OwnEnd s Q k n) (T.setTop (mkF m pc Ls [])) :=
  own_leaf X hlk (fun _ => rfl) hc hs eT hQ fun fs hl => X.returnOut hx hret hd hl
theorem own_retA (X : Stand p l e R s m args below meth c T locs cells slots) (hlk : meth.locks = false) (hx : p.tables.exec = Jvm.exec) {pc : Nat} {Ls : Array Slot} {w : Value} {rest : List Value} {t : FieldType} (hret : meth.sig.returnType = some t) (ht : t.isReference = true) (hw : w.isRef = true) (hd : decode c.code pc = .ok (.areturn, 1)) (hc : cells ≤ k) (hs : slots ≤ n) (eT : T.heap = h) (hQ : Q (some w) h locs) :
    OwnGo p.tables e below (OwnEnd s Q k n) (T.setTop (mkF m pc Ls (w :: rest))) :=
  own_leaf X hlk (fun q => by rw [hret] at q; cases q) hc hs eT hQ fun fs hl => retOut X hx hret (by cases t <;> first | (cases ht; done) | rfl) (Or.inr (Or.inr (Or.inr (Or.inr ⟨rfl, ht, hw⟩)))) hd hl
/-! own: int arrays, by a function of the place -/
def OwnIA (Z : State) (h : Heap) (a : Addr) (n : Nat) (f : Nat → Int32) : Prop := ∃ c : Cell, Arr Z h a c .int ∧ c.slots.size = n ∧ n < 2147483648 ∧ ∀ i, i < n → c.slots[i]? = some (.int (f i))
theorem OwnIA.lt {a : Addr} {n : Nat} {f : Nat → Int32} (F : OwnIA Z h a n f) : a < h.size := by obtain ⟨c, A, -⟩ := F; exact A.lt
theorem OwnIA.ext {h' : Heap} {a : Addr} {n : Nat} {f : Nat → Int32} (F : OwnIA Z h a n f) (E : Ext h h') : OwnIA Z h' a n f := by obtain ⟨c, A, r⟩ := F; exact ⟨c, A.ext E, r⟩
theorem OwnIA.other {h' : Heap} {a b : Addr} {n sl : Nat} {v : Value} {f : Nat → Int32} (F : OwnIA Z h b n f) (W : Wr h h' a sl v) (q : b ≠ a) : OwnIA Z h' b n f := by obtain ⟨c, A, r⟩ := F; exact ⟨c, A.other W q, r⟩
theorem OwnIA.keep {h' : Heap} {ws : List Addr} {a : Addr} {n : Nat} {f : Nat → Int32} (F : OwnIA Z h a n f) (K : Keep h h' ws) (q : a ∉ ws) : OwnIA Z h' a n f := by obtain ⟨c, A, r⟩ := F; exact ⟨c, ⟨K.2.1 a c A.1 q, A.2⟩, r⟩
theorem OwnIA.eqv {a : Addr} {n : Nat} {f f' : Nat → Int32} (F : OwnIA Z h a n f) (q : ∀ i, i < n → f i = f' i) : OwnIA Z h a n f' := by obtain ⟨c, A, r1, r2, r3⟩ := F; exact ⟨c, A, r1, r2, fun i hi => by rw [r3 i hi, q i hi]⟩
theorem own_clamp {j : Int32} {i : Nat} (hj : j.toInt = i) : j.toNatClampNeg = i := by simp only [Int32.toNatClampNeg]; omega
theorem own_inb {c : Cell} {j : Int32} {i n : Nat} (S : c.slots.size = n) (hj : j.toInt = i) (hi : i < n) : ¬ (j < 0 ∨ c.slots.size ≤ j.toNatClampNeg) := by
  rw [own_clamp hj, S]; simp only [Int32.lt_iff_toInt_lt, Int32.reduceToInt]; omega
theorem OwnIA.new {a : Addr} {k : ClassId} {z : Int32} {i : Nat} (A : Arr Z h a (newA k .int z) .int) (hz : z.toInt = i) : OwnIA Z h a i (fun _ => 0) := by
  have q := own_clamp hz
  have r := rng32 z
  exact ⟨_, A, by rw [sz_new]; exact q, by omega, fun j hj => by simp [newA, q, hj, defaultValue]⟩
theorem own_len (X : Stand p l e R s m args below meth c T locs cells slots) (hx : p.tables.exec = Jvm.exec) (hZ : Z.Warmed39 s.vm) (eT : T.heap = h) {a : Addr} {n : Nat} {f : Nat → Int32} (V : OwnIA Z h a n f) {g : JFrame} (hg : g.method = m) {rest : List Value} (hs : g.stack = .ref a :: rest) (hd : decode c.code g.pc = .ok (.arraylength, 1)) :
    ∀ target, Steps p.tables e below (T.setTop { g with pc := g.pc + 1, stack := .int (Int32.ofNat n) :: rest }) target → Steps p.tables e below (T.setTop g) target := by
  obtain ⟨cl, A, S, -⟩ := V
  subst S
  exact X.arraylength hx (by rw [eT]; exact A.1) (State.isArrayOf_alike hZ.alike A.2.1) hg hs hd
theorem own_iaload (X : Stand p l e R s m args below meth c T locs cells slots) (hx : p.tables.exec = Jvm.exec) (hZ : Z.Warmed39 s.vm) (eT : T.heap = h) {a : Addr} {n : Nat} {f : Nat → Int32} (V : OwnIA Z h a n f) {j : Int32} {i : Nat} (hj : j.toInt = i) (hi : i < n) {g : JFrame} (hg : g.method = m) {rest : List Value} (hs : g.stack = .int j :: .ref a :: rest) (hd : decode c.code g.pc = .ok (.iaload, 1)) :
    ∀ target, Steps p.tables e below (T.setTop { g with pc := g.pc + 1, stack := .int (f i) :: rest }) target → Steps p.tables e below (T.setTop g) target := by
  obtain ⟨cl, A, S, -, H⟩ := V
  exact X.iaload hx (by rw [eT]; exact A.1) (State.isArrayOf_alike hZ.alike A.2.1) A.2.2 (own_inb S hj hi) (by rw [own_clamp hj]; exact H i hi) hg hs hd
theorem own_iastore (X : Stand p l e R s m args below meth c T locs cells slots) (hx : p.tables.exec = Jvm.exec) (hZ : Z.Warmed39 s.vm) (eT : T.heap = h) {a : Addr} {n : Nat} {f : Nat → Int32} (V : OwnIA Z h a n f) {j x : Int32} {i : Nat} (hj : j.toInt = i) (hi : i < n) {g : JFrame} (hg : g.method = m) {rest : List Value} (hs : g.stack = .int x :: .int j :: .ref a :: rest) (hd : decode c.code g.pc = .ok (.iastore, 1)) :
    ∃ T' h', Stand p l e R s m args below meth c T' (locs ++ [⟨a, i⟩]) cells slots ∧ T'.heap = h' ∧ Wr h h' a i (.int x) ∧ OwnIA Z h' a n (fun k => if k = i then x else f k) ∧ ∀ target, Steps p.tables e below (T'.setTop { g with pc := g.pc + 1, stack := rest }) target → Steps p.tables e below (T.setTop g) target := by
  obtain ⟨cl, A, S, N, H⟩ := V
  obtain ⟨T', h', X', e', W, st⟩ := stI X hx hZ eT A (own_inb S hj hi) hg hs hd
  rw [own_clamp hj] at X' W
  refine ⟨T', h', X', e', W, ⟨_, A.same W, by rw [sz_set]; exact S, N, fun k hk => ?_⟩, st⟩
  by_cases q : k = i
  · subst q; simp [Cell.setSlot, S, hk]
  · simp only [Cell.setSlot, if_neg q]; rw [Array.getElem?_setIfInBounds_ne (Ne.symm q)]; exact H k hk
theorem own_newI (X : Stand p l e R s m args below meth c T locs cells slots) (hx : p.tables.exec = Jvm.exec) (hZ : Z.Warmed39 s.vm) (w : (Cond.arrayClass .int).before a0 Z = true) (eT : T.heap = h) {g : JFrame} (hg : g.method = m) (hd : decode c.code g.pc = .ok (.newarray .int, 2)) {z : Int32} {i : Nat} {rest : List Value} (hs : g.stack = .int z :: rest)
    (hz : z.toInt = i) {cap : Nat} (hcap : i ≤ cap) (hb : cap * 8 ≤ 536870912) (hc : cells + 1 ≤ R.cells) (hl : slots + cap ≤ R.slots) :
    ∃ T' h' a, Stand p l e R s m args below meth c T' locs (cells + 1) (slots + cap) ∧ T'.heap = h' ∧ Ext h h' ∧ a = h.size ∧ OwnIA Z h' a i (fun _ => 0) ∧ ∀ target, Steps p.tables e below (T'.setTop { g with pc := g.pc + 2, stack := .ref a :: rest }) target → Steps p.tables e below (T.setTop g) target := by
  have q := own_clamp hz
  obtain ⟨T', h', cA, X', e', E, A, st⟩ := newP X hx hZ (aty := .int) w eT hg hd hs (by simp only [Int32.lt_iff_toInt_lt, Int32.reduceToInt]; omega) (cap := cap) (by omega) hb hc hl
  exact ⟨T', h', _, X', e', E, rfl, OwnIA.new A hz, st⟩
end OwnLeaf
/-! own: branches, by the ints' own numbers -/
theorem own_blt {x y : Int32} {a b : Int} (hx : x.toInt = a) (hy : y.toInt = b) (h : a < b) : if_icmp.holds .lt x y = true ∧ if_icmp.holds .ge x y = false ∧ if_icmp.holds .gt y x = true ∧ if_icmp.holds .le y x = false := tlt (by rw [Int32.lt_iff_toInt_lt]; omega)
theorem own_bnlt {x y : Int32} {a b : Int} (hx : x.toInt = a) (hy : y.toInt = b) (h : ¬ a < b) : if_icmp.holds .lt x y = false ∧ if_icmp.holds .ge x y = true ∧ if_icmp.holds .gt y x = false ∧ if_icmp.holds .le y x = true := flt (by rw [Int32.lt_iff_toInt_lt]; omega)
theorem own_beq {x y : Int32} {a b : Int} (hx : x.toInt = a) (hy : y.toInt = b) (h : a = b) : if_icmp.holds .eq x y = true ∧ if_icmp.holds .ne x y = false := teq (Int32.toInt_inj.mp (by omega))
theorem own_bneq {x y : Int32} {a b : Int} (hx : x.toInt = a) (hy : y.toInt = b) (h : ¬ a = b) : if_icmp.holds .eq x y = false ∧ if_icmp.holds .ne x y = true := feq fun q => h (by rw [← hx, ← hy, q])
theorem own_Llt {x y : Int64} {a b : Int} (hx : x.toInt = a) (hy : y.toInt = b) (h : a < b) : ifCond.holds .lt (lcmpW x y) = true ∧ ifCond.holds .ge (lcmpW x y) = false := by
  have q : x < y := by rw [Int64.lt_iff_toInt_lt]; omega
  rw [if0, if0]; exact ⟨(tlt ((lw_lt x y).mpr q)).1, (tlt ((lw_lt x y).mpr q)).2.1⟩
theorem own_Lnlt {x y : Int64} {a b : Int} (hx : x.toInt = a) (hy : y.toInt = b) (h : ¬ a < b) : ifCond.holds .lt (lcmpW x y) = false ∧ ifCond.holds .ge (lcmpW x y) = true := by
  have q : ¬ x < y := by rw [Int64.lt_iff_toInt_lt]; omega
  rw [if0, if0]; exact ⟨(flt (fun r => q ((lw_lt x y).mp r))).1, (flt (fun r => q ((lw_lt x y).mp r))).2.1⟩
theorem own_Lgt {x y : Int64} {a b : Int} (hx : x.toInt = a) (hy : y.toInt = b) (h : b < a) : ifCond.holds .gt (lcmpW x y) = true ∧ ifCond.holds .le (lcmpW x y) = false := by
  have q : y < x := by rw [Int64.lt_iff_toInt_lt]; omega
  rw [if0, if0]; exact ⟨(tlt ((lw_gt x y).mpr q)).2.2.1, (tlt ((lw_gt x y).mpr q)).2.2.2⟩
theorem own_Lngt {x y : Int64} {a b : Int} (hx : x.toInt = a) (hy : y.toInt = b) (h : ¬ b < a) : ifCond.holds .gt (lcmpW x y) = false ∧ ifCond.holds .le (lcmpW x y) = true := by
  have q : ¬ y < x := by rw [Int64.lt_iff_toInt_lt]; omega
  rw [if0, if0]; exact ⟨(flt (fun r => q ((lw_gt x y).mp r))).2.2.1, (flt (fun r => q ((lw_gt x y).mp r))).2.2.2⟩
theorem own_Leq {x y : Int64} {a b : Int} (hx : x.toInt = a) (hy : y.toInt = b) (h : a = b) : ifCond.holds .eq (lcmpW x y) = true ∧ ifCond.holds .ne (lcmpW x y) = false := by
  have q : x = y := Int64.toInt_inj.mp (by omega)
  rw [if0, if0]; exact teq ((lw_eq x y).mpr q)
theorem own_Lneq {x y : Int64} {a b : Int} (hx : x.toInt = a) (hy : y.toInt = b) (h : ¬ a = b) : ifCond.holds .eq (lcmpW x y) = false ∧ ifCond.holds .ne (lcmpW x y) = true := by
  have q : ¬ x = y := fun r => h (by rw [← hx, ← hy, r])
  rw [if0, if0]; exact feq fun r => q ((lw_eq x y).mp r)
theorem own_ofNat {i : Nat} (h : i < 2147483648) : (Int32.ofNat i).toInt = (i : Int) := Int32.toInt_ofNat_small h
theorem own_ofNatS (i : Nat) : Int32.ofNat i + 1 = Int32.ofNat (i + 1) := (Int32.ofNat_add i 1).symm
theorem own_fieldInt {args : Array Value} {s : State} {t : Term} {C n d : String} {k : Int32} {w : Addr} (ht : t.eval args s none [] s = some (.ref w)) (h : (Jvm.Cond.eq (.field t C n d) (.int k)).value args s none s [] = some true) : Fld s s.heap w C n d (.int k) := by
  apply Fld.start
  obtain ⟨x, y, hx, hy, -, k2⟩ := cmp_v (Or.inl h)
  have hy' : y = .int k := Option.some.inj (hy.symm.trans (Term.int_eval k))
  subst hy'
  obtain ⟨z, rfl⟩ : ∃ z, x = .int z := k2
  have q := gotT (Cond.eq_ints hx hy) h
  subst q
  rw [← fld_at ht]; exact hx
end Jvm.RoadKit
namespace Jvm.Pilot.@@N@@
open Jvm Jvm.ClassFile Sem Op Lib Jvm.Free Jvm.Stand Jvm.LawKit Jvm.RoadKit Bundle Jvm.Pilot.@@N@@.Jvm.D
def own_sh (x : Int64) (k : Int32) : Int64 := (x.toUInt64 >>> (k &&& 0x3f).toInt64.toUInt64).toInt64
def own_mx (x : Int64) (k : Int32) : Int64 := x ^^^ own_sh x k
def own_mix (z : Int64) : Int64 := own_mx (own_mx (own_mx z 30 * (-4658895280553007687 : Int64)) 27 * (-7723592293110705685 : Int64)) 31
def own_st (c x : Int64) : Int64 := x * (2 - c * x)
def own_inv (c : Int64) : Int64 := own_st c (own_st c (own_st c (own_st c (own_st c (own_st c c)))))
def own_u (x : Int64) (a b : Int32) : Int64 := (x ^^^ own_sh x a) ^^^ own_sh x b
def own_unmix (y : Int64) : Int64 := own_u (own_u (own_u y 31 62 * own_inv (-7723592293110705685 : Int64)) 27 54 * own_inv (-4658895280553007687 : Int64)) 30 60
theorem own_shb (x : Int64) (k : Int32) (n : Nat) (hk : (k &&& 0x3f).toInt64.toUInt64 = UInt64.ofNat n) (hn : n < 64) : (own_sh x k).toBitVec = x.toBitVec >>> n := by
  unfold own_sh
  rw [hk]
  show (x.toUInt64 >>> UInt64.ofNat n).toBitVec = _
  rw [UInt64.toBitVec_shiftRight]
  show x.toBitVec >>> ((UInt64.ofNat n).toBitVec % 64) = _
  have e : ((UInt64.ofNat n).toBitVec % 64).toNat = n := by
    simp [BitVec.toNat_umod]
    omega
  rw [BitVec.ushiftRight_eq', e]
theorem own_bx (z : BitVec 64) (a b : Nat) (hb : b = a + a) (h : 64 ≤ a + b) : (((z ^^^ z >>> a) ^^^ (z ^^^ z >>> a) >>> a) ^^^ (z ^^^ z >>> a) >>> b) = z := by
  apply BitVec.eq_of_getLsbD_eq
  intro i hi
  subst hb
  simp only [BitVec.getLsbD_xor, BitVec.getLsbD_ushiftRight]
  rw [show a + (a + i) = a + a + i by omega, show a + (a + a + i) = a + a + a + i by omega, BitVec.getLsbD_of_ge z (a + a + a + i) (by omega)]
  generalize z.getLsbD i = p
  generalize z.getLsbD (a + i) = q
  generalize z.getLsbD (a + a + i) = r
  cases p <;> cases q <;> cases r <;> rfl
theorem own_ux (z : Int64) (k j : Int32) (a : Nat) (hk : (k &&& 0x3f).toInt64.toUInt64 = UInt64.ofNat a) (hj : (j &&& 0x3f).toInt64.toUInt64 = UInt64.ofNat (a + a)) (h1 : a + a < 64) (h : 64 ≤ a + (a + a)) : own_u (own_mx z k) k j = z := by
  apply Int64.toBitVec_inj.mp
  unfold own_u own_mx
  simp only [Int64.toBitVec_xor, own_shb _ k a hk (by omega), own_shb _ j (a + a) hj h1]
  exact own_bx z.toBitVec a (a + a) rfl h
theorem own_iv (x c : Int64) (h : c * own_inv c = 1) : (x * c) * own_inv c = x := by rw [Int64.mul_assoc, h, Int64.mul_one]
theorem own_um (z : Int64) : own_unmix (own_mix z) = z := by
  unfold own_unmix own_mix
  rw [own_ux _ 31 62 31 (by decide) (by decide) (by decide) (by decide), own_iv _ _ (by decide), own_ux _ 27 54 27 (by decide) (by decide) (by decide) (by decide), own_iv _ _ (by decide), own_ux _ 30 60 30 (by decide) (by decide) (by decide) (by decide)]
theorem pd_0 : parseMethodDescriptor "(J)V" = some ⟨[.long], none⟩ := by decide +kernel
theorem pd_1 : parseMethodDescriptor "()J" = some ⟨[], some .long⟩ := by decide +kernel
theorem pd_2 : parseMethodDescriptor "(J)J" = some ⟨[.long], some .long⟩ := by decide +kernel
theorem d1_0 : decode prog_38_method_1_code 0 = .ok (.aload_n 0, 1) := by decide +kernel
theorem d1_1 : decode prog_38_method_1_code 1 = .ok (.invokespecial 1, 3) := by decide +kernel
theorem d1_4 : decode prog_38_method_1_code 4 = .ok (.aload_n 0, 1) := by decide +kernel
theorem d1_5 : decode prog_38_method_1_code 5 = .ok (.lload_n 1, 1) := by decide +kernel
theorem d1_6 : decode prog_38_method_1_code 6 = .ok (.putfield 7, 3) := by decide +kernel
theorem d1_9 : decode prog_38_method_1_code 9 = .ok (.return_, 1) := by decide +kernel
theorem pn_1 : plainName "com/example/blindfold/blindfold/core/SeededRandom" = true := by first | (simp [plainName, overriddenIn]; done) | decide +kernel
theorem ef_1 (m : MethodId) (x0 : Addr) (x1 : Int64) : entryFrame m #[(.ref x0), (.long x1)] 3 = mkF m 0 #[.val (.ref x0), .val (.long x1), .second] [] := by first | (simp [entryFrame, mkF, argsToLocals, Value.category, maxLocals]; done) | rfl
def Q1 (Z : State) (a : Addr) (q : Int64) (h0 : Heap) (n0 : Nat) (v : Option Value) (h : Heap) (L : List Loc) : Prop := v = none ∧ Fr n0 L ∧ Keep h0 h [a] ∧ Exa Z h a "com/example/blindfold/blindfold/core/SeededRandom" ∧ Fld Z h a "com/example/blindfold/blindfold/core/SeededRandom" "state" "J" (.long q)
set_option maxRecDepth 65536 in
set_option maxHeartbeats 40000000 in
theorem rm1 (l : Launch) (Z : State) (a0 : Array Value) (hw : ∀ d ∈ tables_1, d.before a0 Z = true) (ws : List Jvm.Cond) (a : Addr) (q : Int64) (h0 : Heap) (n0 : Nat) (Z0 : n0 ≤ h0.size) (E_a : Exa Z h0 a "com/example/blindfold/blindfold/core/SeededRandom") (F_state_a : Fld Z h0 a "com/example/blindfold/blindfold/core/SeededRandom" "state" "J" (.long 0)) (g_a : n0 ≤ a) :
    MetFree l (⟨"com/example/blindfold/blindfold/core/SeededRandom", "<init>", "(J)V"⟩ : MethodName) (head1 (Jvm.Cond.code (⟨"com/example/blindfold/blindfold/core/SeededRandom", "<init>", "(J)V"⟩ : MethodName) prog_38_method_1_code 3 none :: ws) ({ frames := 1, cells := 0, slots := 0, locals := 12 } : Room)) (fun arr' U => arr' = #[(.ref a), (.long q)] ∧ Z.Warmed39 U.vm ∧ U.heap = h0) (fun _ _ _ _ _ => True) (fun _ U o U' => ∃ v L, o = .returned v ∧ (Q1 Z a q h0 n0) v U'.heap L ∧ FrameEnd U o U' L ({ frames := 1, cells := 0, slots := 0, locals := 12 } : Room).cells ({ frames := 1, cells := 0, slots := 0, locals := 12 } : Room).slots) := by
  refine MetFree.of_bodySF (plainFor_of_name pn_1) hisR ?_
  intro p e s m args below meth c s₁ Bd hml0 hP hK
  obtain ⟨rfl, hZ, hh⟩ := hP
  have hx := Bd.exec
  have hby := Bd.bytes
  have hlk : meth.locks = false := BodyLoose.notSynchronized Bd
  have hml : c.maxLocals = 3 := hml0
  have hown : s.vm.findClass "com/example/blindfold/blindfold/core/SeededRandom" = some m.cls := findClass_of_methodNamed Bd.named
  have hnm := (name_of_methodNamed Bd.named Bd.method).1
  have X0 : Stand p l e ({ frames := 1, cells := 0, slots := 0, locals := 12 } : Room) s m #[(.ref a), (.long q)] below meth c s₁ [] 0 0 := Stand.of_body Bd
  have e0 : s₁.heap = h0 := by rw [← hh, Bd.state]; rfl
  have N := Fr.nil n0
  have Zs := Z0
  change OwnGo p.tables e below (OwnEnd s (Q1 Z a q h0 n0) ({ frames := 1, cells := 0, slots := 0, locals := 12 } : Room).cells ({ frames := 1, cells := 0, slots := 0, locals := 12 } : Room).slots) _
  refine OwnGo.fwd (fun tq' kq' => castTop (ef_1 m a q) kq') ?_
  show OwnGo _ _ _ _ (s₁.setTop (mkF m 0 #[.val (.ref a), .val (.long q), .second] []))
  have K : Keep h0 h0 [a] := Keep.refl _ _
  refine OwnGo.fwd (fun tq' kq' => XS.aloadN X0.here hx rfl (hb hby d1_0) rfl rfl kq') ?_
  show OwnGo _ _ _ _ (s₁.setTop (mkF m 1 #[.val (.ref a), .val (.long q), .second] [(.ref a)]))
  obtain ⟨T1, X1, e1, st1⟩ := initO X0 hx hZ hown (hw _ (List.mem_of_getElem? (i := 7) rfl)) (hw _ (List.mem_of_getElem? (i := 8) rfl)) (hw _ (List.mem_of_getElem? (i := 9) rfl)) e0 (g := (mkF m 1 #[.val (.ref a), .val (.long q), .second] [(.ref a)])) rfl (by rw [hml]; rfl) rfl (hb hby d1_1) (by decide) (W := 0) (by show 2 * 0 + _ ≤ _; exact Nat.le_of_eq rfl) (by decide)
  refine OwnGo.fwd st1 ?_
  show OwnGo _ _ _ _ (T1.setTop (mkF m 4 #[.val (.ref a), .val (.long q), .second] []))
  refine OwnGo.fwd (fun tq' kq' => XS.aloadN X1.here hx rfl (hb hby d1_4) rfl rfl kq') ?_
  show OwnGo _ _ _ _ (T1.setTop (mkF m 5 #[.val (.ref a), .val (.long q), .second] [(.ref a)]))
  refine OwnGo.fwd (fun tq' kq' => XS.lloadN X1.here hx rfl (hb hby d1_5) rfl kq') ?_
  show OwnGo _ _ _ _ (T1.setTop (mkF m 6 #[.val (.ref a), .val (.long q), .second] [(.long q), (.ref a)]))
  obtain ⟨T2, h2, X2, e2, W2, st2⟩ := putF X1 hx hZ hown (host := "") (Or.inl (hw _ (List.mem_of_getElem? (i := 10) rfl))) Via.refl e1 F_state_a E_a (Or.inl (hw _ (List.mem_of_getElem? (i := 11) rfl))) (hw _ (List.mem_of_getElem? (i := 2) rfl)) (ty := .long) (by decide) rfl rfl (g := (mkF m 6 #[.val (.ref a), .val (.long q), .second] [(.long q), (.ref a)])) rfl rfl (hb hby d1_6)
  have E_a := E_a.wr W2
  have F_state_a := F_state_a.same W2
  have K := K.wr W2 (Or.inl (List.mem_of_getElem? (i := 0) rfl))
  have Zs := Nat.le_trans Zs (Keep.of_wr W2).1
  have N := Fr.snoc X2 N g_a
  refine OwnGo.fwd st2 ?_
  show OwnGo _ _ _ _ (T2.setTop (mkF m 9 #[.val (.ref a), .val (.long q), .second] []))
  exact own_retV X2 hlk hx Bd.returns (hb hby d1_9) (by decide) (by decide) e2 ⟨rfl, N, K, E_a, F_state_a⟩
theorem d3_0 : decode prog_38_method_2_code 0 = .ok (.aload_n 0, 1) := by decide +kernel
theorem d3_1 : decode prog_38_method_2_code 1 = .ok (.dup, 1) := by decide +kernel
theorem d3_2 : decode prog_38_method_2_code 2 = .ok (.getfield 7, 3) := by decide +kernel
theorem d3_5 : decode prog_38_method_2_code 5 = .ok (.ldc2_w 13, 3) := by decide +kernel
theorem d3_8 : decode prog_38_method_2_code 8 = .ok (.ladd, 1) := by decide +kernel
theorem d3_9 : decode prog_38_method_2_code 9 = .ok (.putfield 7, 3) := by decide +kernel
theorem d3_12 : decode prog_38_method_2_code 12 = .ok (.aload_n 0, 1) := by decide +kernel
theorem d3_13 : decode prog_38_method_2_code 13 = .ok (.getfield 7, 3) := by decide +kernel
theorem d3_16 : decode prog_38_method_2_code 16 = .ok (.lstore_n 1, 1) := by decide +kernel
theorem d3_17 : decode prog_38_method_2_code 17 = .ok (.lload_n 1, 1) := by decide +kernel
theorem d3_18 : decode prog_38_method_2_code 18 = .ok (.lload_n 1, 1) := by decide +kernel
theorem d3_19 : decode prog_38_method_2_code 19 = .ok (.bipush 30, 2) := by decide +kernel
theorem d3_21 : decode prog_38_method_2_code 21 = .ok (.lushr, 1) := by decide +kernel
theorem d3_22 : decode prog_38_method_2_code 22 = .ok (.lxor, 1) := by decide +kernel
theorem d3_23 : decode prog_38_method_2_code 23 = .ok (.ldc2_w 15, 3) := by decide +kernel
theorem d3_26 : decode prog_38_method_2_code 26 = .ok (.lmul, 1) := by decide +kernel
theorem d3_27 : decode prog_38_method_2_code 27 = .ok (.lstore_n 1, 1) := by decide +kernel
theorem d3_28 : decode prog_38_method_2_code 28 = .ok (.lload_n 1, 1) := by decide +kernel
theorem d3_29 : decode prog_38_method_2_code 29 = .ok (.lload_n 1, 1) := by decide +kernel
theorem d3_30 : decode prog_38_method_2_code 30 = .ok (.bipush 27, 2) := by decide +kernel
theorem d3_32 : decode prog_38_method_2_code 32 = .ok (.lushr, 1) := by decide +kernel
theorem d3_33 : decode prog_38_method_2_code 33 = .ok (.lxor, 1) := by decide +kernel
theorem d3_34 : decode prog_38_method_2_code 34 = .ok (.ldc2_w 17, 3) := by decide +kernel
theorem d3_37 : decode prog_38_method_2_code 37 = .ok (.lmul, 1) := by decide +kernel
theorem d3_38 : decode prog_38_method_2_code 38 = .ok (.lstore_n 1, 1) := by decide +kernel
theorem d3_39 : decode prog_38_method_2_code 39 = .ok (.lload_n 1, 1) := by decide +kernel
theorem d3_40 : decode prog_38_method_2_code 40 = .ok (.lload_n 1, 1) := by decide +kernel
theorem d3_41 : decode prog_38_method_2_code 41 = .ok (.bipush 31, 2) := by decide +kernel
theorem d3_43 : decode prog_38_method_2_code 43 = .ok (.lushr, 1) := by decide +kernel
theorem d3_44 : decode prog_38_method_2_code 44 = .ok (.lxor, 1) := by decide +kernel
theorem d3_45 : decode prog_38_method_2_code 45 = .ok (.lreturn, 1) := by decide +kernel
theorem pn_3 : plainName "com/example/blindfold/blindfold/core/SeededRandom" = true := by first | (simp [plainName, overriddenIn]; done) | decide +kernel
theorem ef_3 (m : MethodId) (x0 : Addr) : entryFrame m #[(.ref x0)] 3 = mkF m 0 #[.val (.ref x0), .unset, .unset] [] := by first | (simp [entryFrame, mkF, argsToLocals, Value.category, maxLocals]; done) | rfl
def Q3 (Z : State) (a : Addr) (q : Int64) (h0 : Heap) (n0 : Nat) (v : Option Value) (h : Heap) (L : List Loc) : Prop := v = some (.long (own_mix (q + (-7046029254386353131 : Int64)))) ∧ Fr n0 L ∧ Keep h0 h [a] ∧ Exa Z h a "com/example/blindfold/blindfold/core/SeededRandom" ∧ Fld Z h a "com/example/blindfold/blindfold/core/SeededRandom" "state" "J" (.long (q + (-7046029254386353131 : Int64)))
set_option maxRecDepth 65536 in
set_option maxHeartbeats 40000000 in
theorem rm3 (l : Launch) (Z : State) (a0 : Array Value) (hw : ∀ d ∈ tables_1, d.before a0 Z = true) (ws : List Jvm.Cond) (a : Addr) (q : Int64) (h0 : Heap) (n0 : Nat) (Z0 : n0 ≤ h0.size) (E_a : Exa Z h0 a "com/example/blindfold/blindfold/core/SeededRandom") (F_state_a : Fld Z h0 a "com/example/blindfold/blindfold/core/SeededRandom" "state" "J" (.long q)) (g_a : n0 ≤ a) :
    MetFree l (⟨"com/example/blindfold/blindfold/core/SeededRandom", "nextLong", "()J"⟩ : MethodName) (head1 (Jvm.Cond.code (⟨"com/example/blindfold/blindfold/core/SeededRandom", "nextLong", "()J"⟩ : MethodName) prog_38_method_2_code 3 (some .long) :: ws) ({ frames := 0, cells := 0, slots := 0, locals := 0 } : Room)) (fun arr' U => arr' = #[(.ref a)] ∧ Z.Warmed39 U.vm ∧ U.heap = h0) (fun _ _ _ _ _ => True) (fun _ U o U' => ∃ v L, o = .returned v ∧ (Q3 Z a q h0 n0) v U'.heap L ∧ FrameEnd U o U' L ({ frames := 0, cells := 0, slots := 0, locals := 0 } : Room).cells ({ frames := 0, cells := 0, slots := 0, locals := 0 } : Room).slots) := by
  refine MetFree.of_bodySF (plainFor_of_name pn_3) hisR ?_
  intro p e s m args below meth c s₁ Bd hml0 hP hK
  obtain ⟨rfl, hZ, hh⟩ := hP
  have hx := Bd.exec
  have hby := Bd.bytes
  have hlk : meth.locks = false := BodyLoose.notSynchronized Bd
  have hml : c.maxLocals = 3 := hml0
  have hown : s.vm.findClass "com/example/blindfold/blindfold/core/SeededRandom" = some m.cls := findClass_of_methodNamed Bd.named
  have hnm := (name_of_methodNamed Bd.named Bd.method).1
  have X0 : Stand p l e ({ frames := 0, cells := 0, slots := 0, locals := 0 } : Room) s m #[(.ref a)] below meth c s₁ [] 0 0 := Stand.of_body Bd
  have e0 : s₁.heap = h0 := by rw [← hh, Bd.state]; rfl
  have N := Fr.nil n0
  have Zs := Z0
  change OwnGo p.tables e below (OwnEnd s (Q3 Z a q h0 n0) ({ frames := 0, cells := 0, slots := 0, locals := 0 } : Room).cells ({ frames := 0, cells := 0, slots := 0, locals := 0 } : Room).slots) _
  refine OwnGo.fwd (fun tq' kq' => castTop (ef_3 m a) kq') ?_
  show OwnGo _ _ _ _ (s₁.setTop (mkF m 0 #[.val (.ref a), .unset, .unset] []))
  have K : Keep h0 h0 [a] := Keep.refl _ _
  refine OwnGo.fwd (fun tq' kq' => XS.aloadN X0.here hx rfl (hb hby d3_0) rfl rfl kq') ?_
  show OwnGo _ _ _ _ (s₁.setTop (mkF m 1 #[.val (.ref a), .unset, .unset] [(.ref a)]))
  refine OwnGo.fwd (fun tq' kq' => XS.dup X0.here hx rfl (hb hby d3_1) rfl rfl kq') ?_
  show OwnGo _ _ _ _ (s₁.setTop (mkF m 2 #[.val (.ref a), .unset, .unset] [(.ref a), (.ref a)]))
  obtain ⟨T1, X1, e1, st1⟩ := getF X0 hx hZ hown (host := "") (Or.inl (hw _ (List.mem_of_getElem? (i := 10) rfl))) Via.refl e0 F_state_a (g := (mkF m 2 #[.val (.ref a), .unset, .unset] [(.ref a), (.ref a)])) rfl rfl (hb hby d3_2)
  refine OwnGo.fwd st1 ?_
  show OwnGo _ _ _ _ (T1.setTop (mkF m 5 #[.val (.ref a), .unset, .unset] [(.long q), (.ref a)]))
  refine OwnGo.fwd (fun tq' kq' => X1.ldc2Long hx hown (mvT hZ (hw _ (List.mem_of_getElem? (i := 17) rfl))) (g := (mkF m 5 #[.val (.ref a), .unset, .unset] [(.long q), (.ref a)])) rfl (hb hby d3_5) tq' kq') ?_
  show OwnGo _ _ _ _ (T1.setTop (mkF m 8 #[.val (.ref a), .unset, .unset] [(.long (-7046029254386353131 : Int64)), (.long q), (.ref a)]))
  refine OwnGo.fwd (fun tq' kq' => XS.ladd X1.here hx rfl (hb hby d3_8) rfl kq') ?_
  show OwnGo _ _ _ _ (T1.setTop (mkF m 9 #[.val (.ref a), .unset, .unset] [(.long (q + (-7046029254386353131 : Int64))), (.ref a)]))
  obtain ⟨T2, h2, X2, e2, W2, st2⟩ := putF X1 hx hZ hown (host := "") (Or.inl (hw _ (List.mem_of_getElem? (i := 10) rfl))) Via.refl e1 F_state_a E_a (Or.inl (hw _ (List.mem_of_getElem? (i := 11) rfl))) (hw _ (List.mem_of_getElem? (i := 2) rfl)) (ty := .long) (by decide) rfl rfl (g := (mkF m 9 #[.val (.ref a), .unset, .unset] [(.long (q + (-7046029254386353131 : Int64))), (.ref a)])) rfl rfl (hb hby d3_9)
  have E_a := E_a.wr W2
  have F_state_a := F_state_a.same W2
  have K := K.wr W2 (Or.inl (List.mem_of_getElem? (i := 0) rfl))
  have Zs := Nat.le_trans Zs (Keep.of_wr W2).1
  have N := Fr.snoc X2 N g_a
  refine OwnGo.fwd st2 ?_
  show OwnGo _ _ _ _ (T2.setTop (mkF m 12 #[.val (.ref a), .unset, .unset] []))
  refine OwnGo.fwd (fun tq' kq' => XS.aloadN X2.here hx rfl (hb hby d3_12) rfl rfl kq') ?_
  show OwnGo _ _ _ _ (T2.setTop (mkF m 13 #[.val (.ref a), .unset, .unset] [(.ref a)]))
  obtain ⟨T3, X3, e3, st3⟩ := getF X2 hx hZ hown (host := "") (Or.inl (hw _ (List.mem_of_getElem? (i := 10) rfl))) Via.refl e2 F_state_a (g := (mkF m 13 #[.val (.ref a), .unset, .unset] [(.ref a)])) rfl rfl (hb hby d3_13)
  refine OwnGo.fwd st3 ?_
  show OwnGo _ _ _ _ (T3.setTop (mkF m 16 #[.val (.ref a), .unset, .unset] [(.long (q + (-7046029254386353131 : Int64)))]))
  refine OwnGo.fwd (fun tq' kq' => XS.lstoreN X3.here hx rfl (hb hby d3_16) rfl (l' := #[.val (.ref a), .val (.long (q + (-7046029254386353131 : Int64))), .second]) rfl kq') ?_
  show OwnGo _ _ _ _ (T3.setTop (mkF m 17 #[.val (.ref a), .val (.long (q + (-7046029254386353131 : Int64))), .second] []))
  refine OwnGo.fwd (fun tq' kq' => XS.lloadN X3.here hx rfl (hb hby d3_17) rfl kq') ?_
  show OwnGo _ _ _ _ (T3.setTop (mkF m 18 #[.val (.ref a), .val (.long (q + (-7046029254386353131 : Int64))), .second] [(.long (q + (-7046029254386353131 : Int64)))]))
  refine OwnGo.fwd (fun tq' kq' => XS.lloadN X3.here hx rfl (hb hby d3_18) rfl kq') ?_
  show OwnGo _ _ _ _ (T3.setTop (mkF m 19 #[.val (.ref a), .val (.long (q + (-7046029254386353131 : Int64))), .second] [(.long (q + (-7046029254386353131 : Int64))), (.long (q + (-7046029254386353131 : Int64)))]))
  refine OwnGo.fwd (fun tq' kq' => XS.bipush X3.here hx rfl (hb hby d3_19) kq') ?_
  show OwnGo _ _ _ _ (T3.setTop (mkF m 21 #[.val (.ref a), .val (.long (q + (-7046029254386353131 : Int64))), .second] [(.int (30 : Int32)), (.long (q + (-7046029254386353131 : Int64))), (.long (q + (-7046029254386353131 : Int64)))]))
  refine OwnGo.fwd (fun tq' kq' => XS.lushr X3.here hx rfl (hb hby d3_21) rfl kq') ?_
  show OwnGo _ _ _ _ (T3.setTop (mkF m 22 #[.val (.ref a), .val (.long (q + (-7046029254386353131 : Int64))), .second] [(.long (((q + (-7046029254386353131 : Int64)).toUInt64 >>> ((30 : Int32) &&& 0x3f).toInt64.toUInt64).toInt64)), (.long (q + (-7046029254386353131 : Int64)))]))
  refine OwnGo.fwd (fun tq' kq' => XS.lxor X3.here hx rfl (hb hby d3_22) rfl kq') ?_
  show OwnGo _ _ _ _ (T3.setTop (mkF m 23 #[.val (.ref a), .val (.long (q + (-7046029254386353131 : Int64))), .second] [(.long ((q + (-7046029254386353131 : Int64)) ^^^ (((q + (-7046029254386353131 : Int64)).toUInt64 >>> ((30 : Int32) &&& 0x3f).toInt64.toUInt64).toInt64)))]))
  refine OwnGo.fwd (fun tq' kq' => X3.ldc2Long hx hown (mvT hZ (hw _ (List.mem_of_getElem? (i := 18) rfl))) (g := (mkF m 23 #[.val (.ref a), .val (.long (q + (-7046029254386353131 : Int64))), .second] [(.long ((q + (-7046029254386353131 : Int64)) ^^^ (((q + (-7046029254386353131 : Int64)).toUInt64 >>> ((30 : Int32) &&& 0x3f).toInt64.toUInt64).toInt64)))])) rfl (hb hby d3_23) tq' kq') ?_
  show OwnGo _ _ _ _ (T3.setTop (mkF m 26 #[.val (.ref a), .val (.long (q + (-7046029254386353131 : Int64))), .second] [(.long (-4658895280553007687 : Int64)), (.long ((q + (-7046029254386353131 : Int64)) ^^^ (((q + (-7046029254386353131 : Int64)).toUInt64 >>> ((30 : Int32) &&& 0x3f).toInt64.toUInt64).toInt64)))]))
  refine OwnGo.fwd (fun tq' kq' => XS.lmul X3.here hx rfl (hb hby d3_26) rfl kq') ?_
  show OwnGo _ _ _ _ (T3.setTop (mkF m 27 #[.val (.ref a), .val (.long (q + (-7046029254386353131 : Int64))), .second] [(.long (((q + (-7046029254386353131 : Int64)) ^^^ (((q + (-7046029254386353131 : Int64)).toUInt64 >>> ((30 : Int32) &&& 0x3f).toInt64.toUInt64).toInt64)) * (-4658895280553007687 : Int64)))]))
  show OwnGo _ _ _ _ (T3.setTop (mkF m 27 #[.val (.ref a), .val (.long (q + (-7046029254386353131 : Int64))), .second] [(.long (own_mx (q + (-7046029254386353131 : Int64)) 30 * (-4658895280553007687 : Int64)))]))
  refine OwnGo.fwd (fun tq' kq' => XS.lstoreN X3.here hx rfl (hb hby d3_27) rfl (l' := #[.val (.ref a), .val (.long (own_mx (q + (-7046029254386353131 : Int64)) 30 * (-4658895280553007687 : Int64))), .second]) rfl kq') ?_
  show OwnGo _ _ _ _ (T3.setTop (mkF m 28 #[.val (.ref a), .val (.long (own_mx (q + (-7046029254386353131 : Int64)) 30 * (-4658895280553007687 : Int64))), .second] []))
  refine OwnGo.fwd (fun tq' kq' => XS.lloadN X3.here hx rfl (hb hby d3_28) rfl kq') ?_
  show OwnGo _ _ _ _ (T3.setTop (mkF m 29 #[.val (.ref a), .val (.long (own_mx (q + (-7046029254386353131 : Int64)) 30 * (-4658895280553007687 : Int64))), .second] [(.long (own_mx (q + (-7046029254386353131 : Int64)) 30 * (-4658895280553007687 : Int64)))]))
  refine OwnGo.fwd (fun tq' kq' => XS.lloadN X3.here hx rfl (hb hby d3_29) rfl kq') ?_
  show OwnGo _ _ _ _ (T3.setTop (mkF m 30 #[.val (.ref a), .val (.long (own_mx (q + (-7046029254386353131 : Int64)) 30 * (-4658895280553007687 : Int64))), .second] [(.long (own_mx (q + (-7046029254386353131 : Int64)) 30 * (-4658895280553007687 : Int64))), (.long (own_mx (q + (-7046029254386353131 : Int64)) 30 * (-4658895280553007687 : Int64)))]))
  refine OwnGo.fwd (fun tq' kq' => XS.bipush X3.here hx rfl (hb hby d3_30) kq') ?_
  show OwnGo _ _ _ _ (T3.setTop (mkF m 32 #[.val (.ref a), .val (.long (own_mx (q + (-7046029254386353131 : Int64)) 30 * (-4658895280553007687 : Int64))), .second] [(.int (27 : Int32)), (.long (own_mx (q + (-7046029254386353131 : Int64)) 30 * (-4658895280553007687 : Int64))), (.long (own_mx (q + (-7046029254386353131 : Int64)) 30 * (-4658895280553007687 : Int64)))]))
  refine OwnGo.fwd (fun tq' kq' => XS.lushr X3.here hx rfl (hb hby d3_32) rfl kq') ?_
  show OwnGo _ _ _ _ (T3.setTop (mkF m 33 #[.val (.ref a), .val (.long (own_mx (q + (-7046029254386353131 : Int64)) 30 * (-4658895280553007687 : Int64))), .second] [(.long (((own_mx (q + (-7046029254386353131 : Int64)) 30 * (-4658895280553007687 : Int64)).toUInt64 >>> ((27 : Int32) &&& 0x3f).toInt64.toUInt64).toInt64)), (.long (own_mx (q + (-7046029254386353131 : Int64)) 30 * (-4658895280553007687 : Int64)))]))
  refine OwnGo.fwd (fun tq' kq' => XS.lxor X3.here hx rfl (hb hby d3_33) rfl kq') ?_
  show OwnGo _ _ _ _ (T3.setTop (mkF m 34 #[.val (.ref a), .val (.long (own_mx (q + (-7046029254386353131 : Int64)) 30 * (-4658895280553007687 : Int64))), .second] [(.long ((own_mx (q + (-7046029254386353131 : Int64)) 30 * (-4658895280553007687 : Int64)) ^^^ (((own_mx (q + (-7046029254386353131 : Int64)) 30 * (-4658895280553007687 : Int64)).toUInt64 >>> ((27 : Int32) &&& 0x3f).toInt64.toUInt64).toInt64)))]))
  refine OwnGo.fwd (fun tq' kq' => X3.ldc2Long hx hown (mvT hZ (hw _ (List.mem_of_getElem? (i := 19) rfl))) (g := (mkF m 34 #[.val (.ref a), .val (.long (own_mx (q + (-7046029254386353131 : Int64)) 30 * (-4658895280553007687 : Int64))), .second] [(.long ((own_mx (q + (-7046029254386353131 : Int64)) 30 * (-4658895280553007687 : Int64)) ^^^ (((own_mx (q + (-7046029254386353131 : Int64)) 30 * (-4658895280553007687 : Int64)).toUInt64 >>> ((27 : Int32) &&& 0x3f).toInt64.toUInt64).toInt64)))])) rfl (hb hby d3_34) tq' kq') ?_
  show OwnGo _ _ _ _ (T3.setTop (mkF m 37 #[.val (.ref a), .val (.long (own_mx (q + (-7046029254386353131 : Int64)) 30 * (-4658895280553007687 : Int64))), .second] [(.long (-7723592293110705685 : Int64)), (.long ((own_mx (q + (-7046029254386353131 : Int64)) 30 * (-4658895280553007687 : Int64)) ^^^ (((own_mx (q + (-7046029254386353131 : Int64)) 30 * (-4658895280553007687 : Int64)).toUInt64 >>> ((27 : Int32) &&& 0x3f).toInt64.toUInt64).toInt64)))]))
  refine OwnGo.fwd (fun tq' kq' => XS.lmul X3.here hx rfl (hb hby d3_37) rfl kq') ?_
  show OwnGo _ _ _ _ (T3.setTop (mkF m 38 #[.val (.ref a), .val (.long (own_mx (q + (-7046029254386353131 : Int64)) 30 * (-4658895280553007687 : Int64))), .second] [(.long (((own_mx (q + (-7046029254386353131 : Int64)) 30 * (-4658895280553007687 : Int64)) ^^^ (((own_mx (q + (-7046029254386353131 : Int64)) 30 * (-4658895280553007687 : Int64)).toUInt64 >>> ((27 : Int32) &&& 0x3f).toInt64.toUInt64).toInt64)) * (-7723592293110705685 : Int64)))]))
  show OwnGo _ _ _ _ (T3.setTop (mkF m 38 #[.val (.ref a), .val (.long (own_mx (q + (-7046029254386353131 : Int64)) 30 * (-4658895280553007687 : Int64))), .second] [(.long (own_mx (own_mx (q + (-7046029254386353131 : Int64)) 30 * (-4658895280553007687 : Int64)) 27 * (-7723592293110705685 : Int64)))]))
  refine OwnGo.fwd (fun tq' kq' => XS.lstoreN X3.here hx rfl (hb hby d3_38) rfl (l' := #[.val (.ref a), .val (.long (own_mx (own_mx (q + (-7046029254386353131 : Int64)) 30 * (-4658895280553007687 : Int64)) 27 * (-7723592293110705685 : Int64))), .second]) rfl kq') ?_
  show OwnGo _ _ _ _ (T3.setTop (mkF m 39 #[.val (.ref a), .val (.long (own_mx (own_mx (q + (-7046029254386353131 : Int64)) 30 * (-4658895280553007687 : Int64)) 27 * (-7723592293110705685 : Int64))), .second] []))
  refine OwnGo.fwd (fun tq' kq' => XS.lloadN X3.here hx rfl (hb hby d3_39) rfl kq') ?_
  show OwnGo _ _ _ _ (T3.setTop (mkF m 40 #[.val (.ref a), .val (.long (own_mx (own_mx (q + (-7046029254386353131 : Int64)) 30 * (-4658895280553007687 : Int64)) 27 * (-7723592293110705685 : Int64))), .second] [(.long (own_mx (own_mx (q + (-7046029254386353131 : Int64)) 30 * (-4658895280553007687 : Int64)) 27 * (-7723592293110705685 : Int64)))]))
  refine OwnGo.fwd (fun tq' kq' => XS.lloadN X3.here hx rfl (hb hby d3_40) rfl kq') ?_
  show OwnGo _ _ _ _ (T3.setTop (mkF m 41 #[.val (.ref a), .val (.long (own_mx (own_mx (q + (-7046029254386353131 : Int64)) 30 * (-4658895280553007687 : Int64)) 27 * (-7723592293110705685 : Int64))), .second] [(.long (own_mx (own_mx (q + (-7046029254386353131 : Int64)) 30 * (-4658895280553007687 : Int64)) 27 * (-7723592293110705685 : Int64))), (.long (own_mx (own_mx (q + (-7046029254386353131 : Int64)) 30 * (-4658895280553007687 : Int64)) 27 * (-7723592293110705685 : Int64)))]))
  refine OwnGo.fwd (fun tq' kq' => XS.bipush X3.here hx rfl (hb hby d3_41) kq') ?_
  show OwnGo _ _ _ _ (T3.setTop (mkF m 43 #[.val (.ref a), .val (.long (own_mx (own_mx (q + (-7046029254386353131 : Int64)) 30 * (-4658895280553007687 : Int64)) 27 * (-7723592293110705685 : Int64))), .second] [(.int (31 : Int32)), (.long (own_mx (own_mx (q + (-7046029254386353131 : Int64)) 30 * (-4658895280553007687 : Int64)) 27 * (-7723592293110705685 : Int64))), (.long (own_mx (own_mx (q + (-7046029254386353131 : Int64)) 30 * (-4658895280553007687 : Int64)) 27 * (-7723592293110705685 : Int64)))]))
  refine OwnGo.fwd (fun tq' kq' => XS.lushr X3.here hx rfl (hb hby d3_43) rfl kq') ?_
  show OwnGo _ _ _ _ (T3.setTop (mkF m 44 #[.val (.ref a), .val (.long (own_mx (own_mx (q + (-7046029254386353131 : Int64)) 30 * (-4658895280553007687 : Int64)) 27 * (-7723592293110705685 : Int64))), .second] [(.long (((own_mx (own_mx (q + (-7046029254386353131 : Int64)) 30 * (-4658895280553007687 : Int64)) 27 * (-7723592293110705685 : Int64)).toUInt64 >>> ((31 : Int32) &&& 0x3f).toInt64.toUInt64).toInt64)), (.long (own_mx (own_mx (q + (-7046029254386353131 : Int64)) 30 * (-4658895280553007687 : Int64)) 27 * (-7723592293110705685 : Int64)))]))
  refine OwnGo.fwd (fun tq' kq' => XS.lxor X3.here hx rfl (hb hby d3_44) rfl kq') ?_
  show OwnGo _ _ _ _ (T3.setTop (mkF m 45 #[.val (.ref a), .val (.long (own_mx (own_mx (q + (-7046029254386353131 : Int64)) 30 * (-4658895280553007687 : Int64)) 27 * (-7723592293110705685 : Int64))), .second] [(.long ((own_mx (own_mx (q + (-7046029254386353131 : Int64)) 30 * (-4658895280553007687 : Int64)) 27 * (-7723592293110705685 : Int64)) ^^^ (((own_mx (own_mx (q + (-7046029254386353131 : Int64)) 30 * (-4658895280553007687 : Int64)) 27 * (-7723592293110705685 : Int64)).toUInt64 >>> ((31 : Int32) &&& 0x3f).toInt64.toUInt64).toInt64)))]))
  show OwnGo _ _ _ _ (T3.setTop (mkF m 45 #[.val (.ref a), .val (.long (own_mx (own_mx (q + (-7046029254386353131 : Int64)) 30 * (-4658895280553007687 : Int64)) 27 * (-7723592293110705685 : Int64))), .second] [(.long (own_mix (q + (-7046029254386353131 : Int64))))]))
  exact own_retJ X3 hlk hx Bd.returns (hb hby d3_45) (by decide) (by decide) e3 ⟨rfl, N, K, E_a, F_state_a⟩
theorem d5_0 : decode method_2_code 0 = .ok (.lload_n 0, 1) := by decide +kernel
theorem d5_1 : decode method_2_code 1 = .ok (.lstore_n 2, 1) := by decide +kernel
theorem d5_2 : decode method_2_code 2 = .ok (.lload_n 2, 1) := by decide +kernel
theorem d5_3 : decode method_2_code 3 = .ok (.ldc2_w 7, 3) := by decide +kernel
theorem d5_6 : decode method_2_code 6 = .ok (.lload_n 0, 1) := by decide +kernel
theorem d5_7 : decode method_2_code 7 = .ok (.lload_n 2, 1) := by decide +kernel
theorem d5_8 : decode method_2_code 8 = .ok (.lmul, 1) := by decide +kernel
theorem d5_9 : decode method_2_code 9 = .ok (.lsub, 1) := by decide +kernel
theorem d5_10 : decode method_2_code 10 = .ok (.lmul, 1) := by decide +kernel
theorem d5_11 : decode method_2_code 11 = .ok (.lstore_n 2, 1) := by decide +kernel
theorem d5_12 : decode method_2_code 12 = .ok (.lload_n 2, 1) := by decide +kernel
theorem d5_13 : decode method_2_code 13 = .ok (.ldc2_w 7, 3) := by decide +kernel
theorem d5_16 : decode method_2_code 16 = .ok (.lload_n 0, 1) := by decide +kernel
theorem d5_17 : decode method_2_code 17 = .ok (.lload_n 2, 1) := by decide +kernel
theorem d5_18 : decode method_2_code 18 = .ok (.lmul, 1) := by decide +kernel
theorem d5_19 : decode method_2_code 19 = .ok (.lsub, 1) := by decide +kernel
theorem d5_20 : decode method_2_code 20 = .ok (.lmul, 1) := by decide +kernel
theorem d5_21 : decode method_2_code 21 = .ok (.lstore_n 2, 1) := by decide +kernel
theorem d5_22 : decode method_2_code 22 = .ok (.lload_n 2, 1) := by decide +kernel
theorem d5_23 : decode method_2_code 23 = .ok (.ldc2_w 7, 3) := by decide +kernel
theorem d5_26 : decode method_2_code 26 = .ok (.lload_n 0, 1) := by decide +kernel
theorem d5_27 : decode method_2_code 27 = .ok (.lload_n 2, 1) := by decide +kernel
theorem d5_28 : decode method_2_code 28 = .ok (.lmul, 1) := by decide +kernel
theorem d5_29 : decode method_2_code 29 = .ok (.lsub, 1) := by decide +kernel
theorem d5_30 : decode method_2_code 30 = .ok (.lmul, 1) := by decide +kernel
theorem d5_31 : decode method_2_code 31 = .ok (.lstore_n 2, 1) := by decide +kernel
theorem d5_32 : decode method_2_code 32 = .ok (.lload_n 2, 1) := by decide +kernel
theorem d5_33 : decode method_2_code 33 = .ok (.ldc2_w 7, 3) := by decide +kernel
theorem d5_36 : decode method_2_code 36 = .ok (.lload_n 0, 1) := by decide +kernel
theorem d5_37 : decode method_2_code 37 = .ok (.lload_n 2, 1) := by decide +kernel
theorem d5_38 : decode method_2_code 38 = .ok (.lmul, 1) := by decide +kernel
theorem d5_39 : decode method_2_code 39 = .ok (.lsub, 1) := by decide +kernel
theorem d5_40 : decode method_2_code 40 = .ok (.lmul, 1) := by decide +kernel
theorem d5_41 : decode method_2_code 41 = .ok (.lstore_n 2, 1) := by decide +kernel
theorem d5_42 : decode method_2_code 42 = .ok (.lload_n 2, 1) := by decide +kernel
theorem d5_43 : decode method_2_code 43 = .ok (.ldc2_w 7, 3) := by decide +kernel
theorem d5_46 : decode method_2_code 46 = .ok (.lload_n 0, 1) := by decide +kernel
theorem d5_47 : decode method_2_code 47 = .ok (.lload_n 2, 1) := by decide +kernel
theorem d5_48 : decode method_2_code 48 = .ok (.lmul, 1) := by decide +kernel
theorem d5_49 : decode method_2_code 49 = .ok (.lsub, 1) := by decide +kernel
theorem d5_50 : decode method_2_code 50 = .ok (.lmul, 1) := by decide +kernel
theorem d5_51 : decode method_2_code 51 = .ok (.lstore_n 2, 1) := by decide +kernel
theorem d5_52 : decode method_2_code 52 = .ok (.lload_n 2, 1) := by decide +kernel
theorem d5_53 : decode method_2_code 53 = .ok (.ldc2_w 7, 3) := by decide +kernel
theorem d5_56 : decode method_2_code 56 = .ok (.lload_n 0, 1) := by decide +kernel
theorem d5_57 : decode method_2_code 57 = .ok (.lload_n 2, 1) := by decide +kernel
theorem d5_58 : decode method_2_code 58 = .ok (.lmul, 1) := by decide +kernel
theorem d5_59 : decode method_2_code 59 = .ok (.lsub, 1) := by decide +kernel
theorem d5_60 : decode method_2_code 60 = .ok (.lmul, 1) := by decide +kernel
theorem d5_61 : decode method_2_code 61 = .ok (.lstore_n 2, 1) := by decide +kernel
theorem d5_62 : decode method_2_code 62 = .ok (.lload_n 2, 1) := by decide +kernel
theorem d5_63 : decode method_2_code 63 = .ok (.lreturn, 1) := by decide +kernel
theorem pn_5 : plainName "com/example/blindfold/blindfold/core/SeededRandomNextLongPinLaw" = true := by first | (simp [plainName, overriddenIn]; done) | decide +kernel
theorem ef_5 (m : MethodId) (x0 : Int64) : entryFrame m #[(.long x0)] 4 = mkF m 0 #[.val (.long x0), .second, .unset, .unset] [] := by first | (simp [entryFrame, mkF, argsToLocals, Value.category, maxLocals]; done) | rfl
def Q5 (Z : State) (q : Int64) (h0 : Heap) (n0 : Nat) (v : Option Value) (h : Heap) (L : List Loc) : Prop := v = some (.long (own_inv q)) ∧ Fr n0 L ∧ h = h0
set_option maxRecDepth 65536 in
set_option maxHeartbeats 40000000 in
theorem rm5 (l : Launch) (Z : State) (a0 : Array Value) (hw : ∀ d ∈ tables_1, d.before a0 Z = true) (ws : List Jvm.Cond) (q : Int64) (h0 : Heap) (n0 : Nat) (Z0 : n0 ≤ h0.size) :
    MetFree l (⟨"com/example/blindfold/blindfold/core/SeededRandomNextLongPinLaw", "inverse", "(J)J"⟩ : MethodName) (head1 (Jvm.Cond.code (⟨"com/example/blindfold/blindfold/core/SeededRandomNextLongPinLaw", "inverse", "(J)J"⟩ : MethodName) method_2_code 4 (some .long) :: ws) ({ frames := 0, cells := 0, slots := 0, locals := 0 } : Room)) (fun arr' U => arr' = #[(.long q)] ∧ Z.Warmed39 U.vm ∧ U.heap = h0) (fun _ _ _ _ _ => True) (fun _ U o U' => ∃ v L, o = .returned v ∧ (Q5 Z q h0 n0) v U'.heap L ∧ FrameEnd U o U' L ({ frames := 0, cells := 0, slots := 0, locals := 0 } : Room).cells ({ frames := 0, cells := 0, slots := 0, locals := 0 } : Room).slots) := by
  refine MetFree.of_bodySF (plainFor_of_name pn_5) hisR ?_
  intro p e s m args below meth c s₁ Bd hml0 hP hK
  obtain ⟨rfl, hZ, hh⟩ := hP
  have hx := Bd.exec
  have hby := Bd.bytes
  have hlk : meth.locks = false := BodyLoose.notSynchronized Bd
  have hml : c.maxLocals = 4 := hml0
  have hown : s.vm.findClass "com/example/blindfold/blindfold/core/SeededRandomNextLongPinLaw" = some m.cls := findClass_of_methodNamed Bd.named
  have hnm := (name_of_methodNamed Bd.named Bd.method).1
  have X0 : Stand p l e ({ frames := 0, cells := 0, slots := 0, locals := 0 } : Room) s m #[(.long q)] below meth c s₁ [] 0 0 := Stand.of_body Bd
  have e0 : s₁.heap = h0 := by rw [← hh, Bd.state]; rfl
  have N := Fr.nil n0
  have Zs := Z0
  change OwnGo p.tables e below (OwnEnd s (Q5 Z q h0 n0) ({ frames := 0, cells := 0, slots := 0, locals := 0 } : Room).cells ({ frames := 0, cells := 0, slots := 0, locals := 0 } : Room).slots) _
  refine OwnGo.fwd (fun tq' kq' => castTop (ef_5 m q) kq') ?_
  show OwnGo _ _ _ _ (s₁.setTop (mkF m 0 #[.val (.long q), .second, .unset, .unset] []))
  refine OwnGo.fwd (fun tq' kq' => XS.lloadN X0.here hx rfl (hb hby d5_0) rfl kq') ?_
  show OwnGo _ _ _ _ (s₁.setTop (mkF m 1 #[.val (.long q), .second, .unset, .unset] [(.long q)]))
  refine OwnGo.fwd (fun tq' kq' => XS.lstoreN X0.here hx rfl (hb hby d5_1) rfl (l' := #[.val (.long q), .second, .val (.long q), .second]) rfl kq') ?_
  show OwnGo _ _ _ _ (s₁.setTop (mkF m 2 #[.val (.long q), .second, .val (.long q), .second] []))
  refine OwnGo.fwd (fun tq' kq' => XS.lloadN X0.here hx rfl (hb hby d5_2) rfl kq') ?_
  show OwnGo _ _ _ _ (s₁.setTop (mkF m 3 #[.val (.long q), .second, .val (.long q), .second] [(.long q)]))
  refine OwnGo.fwd (fun tq' kq' => X0.ldc2Long hx hown (mvT hZ (hw _ (List.mem_of_getElem? (i := 28) rfl))) (g := (mkF m 3 #[.val (.long q), .second, .val (.long q), .second] [(.long q)])) rfl (hb hby d5_3) tq' kq') ?_
  show OwnGo _ _ _ _ (s₁.setTop (mkF m 6 #[.val (.long q), .second, .val (.long q), .second] [(.long (2 : Int64)), (.long q)]))
  refine OwnGo.fwd (fun tq' kq' => XS.lloadN X0.here hx rfl (hb hby d5_6) rfl kq') ?_
  show OwnGo _ _ _ _ (s₁.setTop (mkF m 7 #[.val (.long q), .second, .val (.long q), .second] [(.long q), (.long (2 : Int64)), (.long q)]))
  refine OwnGo.fwd (fun tq' kq' => XS.lloadN X0.here hx rfl (hb hby d5_7) rfl kq') ?_
  show OwnGo _ _ _ _ (s₁.setTop (mkF m 8 #[.val (.long q), .second, .val (.long q), .second] [(.long q), (.long q), (.long (2 : Int64)), (.long q)]))
  refine OwnGo.fwd (fun tq' kq' => XS.lmul X0.here hx rfl (hb hby d5_8) rfl kq') ?_
  show OwnGo _ _ _ _ (s₁.setTop (mkF m 9 #[.val (.long q), .second, .val (.long q), .second] [(.long (q * q)), (.long (2 : Int64)), (.long q)]))
  refine OwnGo.fwd (fun tq' kq' => XS.lsub X0.here hx rfl (hb hby d5_9) rfl kq') ?_
  show OwnGo _ _ _ _ (s₁.setTop (mkF m 10 #[.val (.long q), .second, .val (.long q), .second] [(.long ((2 : Int64) - (q * q))), (.long q)]))
  refine OwnGo.fwd (fun tq' kq' => XS.lmul X0.here hx rfl (hb hby d5_10) rfl kq') ?_
  show OwnGo _ _ _ _ (s₁.setTop (mkF m 11 #[.val (.long q), .second, .val (.long q), .second] [(.long (q * ((2 : Int64) - (q * q))))]))
  show OwnGo _ _ _ _ (s₁.setTop (mkF m 11 #[.val (.long q), .second, .val (.long q), .second] [(.long (own_st q q))]))
  refine OwnGo.fwd (fun tq' kq' => XS.lstoreN X0.here hx rfl (hb hby d5_11) rfl (l' := #[.val (.long q), .second, .val (.long (own_st q q)), .second]) rfl kq') ?_
  show OwnGo _ _ _ _ (s₁.setTop (mkF m 12 #[.val (.long q), .second, .val (.long (own_st q q)), .second] []))
  refine OwnGo.fwd (fun tq' kq' => XS.lloadN X0.here hx rfl (hb hby d5_12) rfl kq') ?_
  show OwnGo _ _ _ _ (s₁.setTop (mkF m 13 #[.val (.long q), .second, .val (.long (own_st q q)), .second] [(.long (own_st q q))]))
  refine OwnGo.fwd (fun tq' kq' => X0.ldc2Long hx hown (mvT hZ (hw _ (List.mem_of_getElem? (i := 28) rfl))) (g := (mkF m 13 #[.val (.long q), .second, .val (.long (own_st q q)), .second] [(.long (own_st q q))])) rfl (hb hby d5_13) tq' kq') ?_
  show OwnGo _ _ _ _ (s₁.setTop (mkF m 16 #[.val (.long q), .second, .val (.long (own_st q q)), .second] [(.long (2 : Int64)), (.long (own_st q q))]))
  refine OwnGo.fwd (fun tq' kq' => XS.lloadN X0.here hx rfl (hb hby d5_16) rfl kq') ?_
  show OwnGo _ _ _ _ (s₁.setTop (mkF m 17 #[.val (.long q), .second, .val (.long (own_st q q)), .second] [(.long q), (.long (2 : Int64)), (.long (own_st q q))]))
  refine OwnGo.fwd (fun tq' kq' => XS.lloadN X0.here hx rfl (hb hby d5_17) rfl kq') ?_
  show OwnGo _ _ _ _ (s₁.setTop (mkF m 18 #[.val (.long q), .second, .val (.long (own_st q q)), .second] [(.long (own_st q q)), (.long q), (.long (2 : Int64)), (.long (own_st q q))]))
  refine OwnGo.fwd (fun tq' kq' => XS.lmul X0.here hx rfl (hb hby d5_18) rfl kq') ?_
  show OwnGo _ _ _ _ (s₁.setTop (mkF m 19 #[.val (.long q), .second, .val (.long (own_st q q)), .second] [(.long (q * (own_st q q))), (.long (2 : Int64)), (.long (own_st q q))]))
  refine OwnGo.fwd (fun tq' kq' => XS.lsub X0.here hx rfl (hb hby d5_19) rfl kq') ?_
  show OwnGo _ _ _ _ (s₁.setTop (mkF m 20 #[.val (.long q), .second, .val (.long (own_st q q)), .second] [(.long ((2 : Int64) - (q * (own_st q q)))), (.long (own_st q q))]))
  refine OwnGo.fwd (fun tq' kq' => XS.lmul X0.here hx rfl (hb hby d5_20) rfl kq') ?_
  show OwnGo _ _ _ _ (s₁.setTop (mkF m 21 #[.val (.long q), .second, .val (.long (own_st q q)), .second] [(.long ((own_st q q) * ((2 : Int64) - (q * (own_st q q)))))]))
  show OwnGo _ _ _ _ (s₁.setTop (mkF m 21 #[.val (.long q), .second, .val (.long (own_st q q)), .second] [(.long (own_st q (own_st q q)))]))
  refine OwnGo.fwd (fun tq' kq' => XS.lstoreN X0.here hx rfl (hb hby d5_21) rfl (l' := #[.val (.long q), .second, .val (.long (own_st q (own_st q q))), .second]) rfl kq') ?_
  show OwnGo _ _ _ _ (s₁.setTop (mkF m 22 #[.val (.long q), .second, .val (.long (own_st q (own_st q q))), .second] []))
  refine OwnGo.fwd (fun tq' kq' => XS.lloadN X0.here hx rfl (hb hby d5_22) rfl kq') ?_
  show OwnGo _ _ _ _ (s₁.setTop (mkF m 23 #[.val (.long q), .second, .val (.long (own_st q (own_st q q))), .second] [(.long (own_st q (own_st q q)))]))
  refine OwnGo.fwd (fun tq' kq' => X0.ldc2Long hx hown (mvT hZ (hw _ (List.mem_of_getElem? (i := 28) rfl))) (g := (mkF m 23 #[.val (.long q), .second, .val (.long (own_st q (own_st q q))), .second] [(.long (own_st q (own_st q q)))])) rfl (hb hby d5_23) tq' kq') ?_
  show OwnGo _ _ _ _ (s₁.setTop (mkF m 26 #[.val (.long q), .second, .val (.long (own_st q (own_st q q))), .second] [(.long (2 : Int64)), (.long (own_st q (own_st q q)))]))
  refine OwnGo.fwd (fun tq' kq' => XS.lloadN X0.here hx rfl (hb hby d5_26) rfl kq') ?_
  show OwnGo _ _ _ _ (s₁.setTop (mkF m 27 #[.val (.long q), .second, .val (.long (own_st q (own_st q q))), .second] [(.long q), (.long (2 : Int64)), (.long (own_st q (own_st q q)))]))
  refine OwnGo.fwd (fun tq' kq' => XS.lloadN X0.here hx rfl (hb hby d5_27) rfl kq') ?_
  show OwnGo _ _ _ _ (s₁.setTop (mkF m 28 #[.val (.long q), .second, .val (.long (own_st q (own_st q q))), .second] [(.long (own_st q (own_st q q))), (.long q), (.long (2 : Int64)), (.long (own_st q (own_st q q)))]))
  refine OwnGo.fwd (fun tq' kq' => XS.lmul X0.here hx rfl (hb hby d5_28) rfl kq') ?_
  show OwnGo _ _ _ _ (s₁.setTop (mkF m 29 #[.val (.long q), .second, .val (.long (own_st q (own_st q q))), .second] [(.long (q * (own_st q (own_st q q)))), (.long (2 : Int64)), (.long (own_st q (own_st q q)))]))
  refine OwnGo.fwd (fun tq' kq' => XS.lsub X0.here hx rfl (hb hby d5_29) rfl kq') ?_
  show OwnGo _ _ _ _ (s₁.setTop (mkF m 30 #[.val (.long q), .second, .val (.long (own_st q (own_st q q))), .second] [(.long ((2 : Int64) - (q * (own_st q (own_st q q))))), (.long (own_st q (own_st q q)))]))
  refine OwnGo.fwd (fun tq' kq' => XS.lmul X0.here hx rfl (hb hby d5_30) rfl kq') ?_
  show OwnGo _ _ _ _ (s₁.setTop (mkF m 31 #[.val (.long q), .second, .val (.long (own_st q (own_st q q))), .second] [(.long ((own_st q (own_st q q)) * ((2 : Int64) - (q * (own_st q (own_st q q))))))]))
  show OwnGo _ _ _ _ (s₁.setTop (mkF m 31 #[.val (.long q), .second, .val (.long (own_st q (own_st q q))), .second] [(.long (own_st q (own_st q (own_st q q))))]))
  refine OwnGo.fwd (fun tq' kq' => XS.lstoreN X0.here hx rfl (hb hby d5_31) rfl (l' := #[.val (.long q), .second, .val (.long (own_st q (own_st q (own_st q q)))), .second]) rfl kq') ?_
  show OwnGo _ _ _ _ (s₁.setTop (mkF m 32 #[.val (.long q), .second, .val (.long (own_st q (own_st q (own_st q q)))), .second] []))
  refine OwnGo.fwd (fun tq' kq' => XS.lloadN X0.here hx rfl (hb hby d5_32) rfl kq') ?_
  show OwnGo _ _ _ _ (s₁.setTop (mkF m 33 #[.val (.long q), .second, .val (.long (own_st q (own_st q (own_st q q)))), .second] [(.long (own_st q (own_st q (own_st q q))))]))
  refine OwnGo.fwd (fun tq' kq' => X0.ldc2Long hx hown (mvT hZ (hw _ (List.mem_of_getElem? (i := 28) rfl))) (g := (mkF m 33 #[.val (.long q), .second, .val (.long (own_st q (own_st q (own_st q q)))), .second] [(.long (own_st q (own_st q (own_st q q))))])) rfl (hb hby d5_33) tq' kq') ?_
  show OwnGo _ _ _ _ (s₁.setTop (mkF m 36 #[.val (.long q), .second, .val (.long (own_st q (own_st q (own_st q q)))), .second] [(.long (2 : Int64)), (.long (own_st q (own_st q (own_st q q))))]))
  refine OwnGo.fwd (fun tq' kq' => XS.lloadN X0.here hx rfl (hb hby d5_36) rfl kq') ?_
  show OwnGo _ _ _ _ (s₁.setTop (mkF m 37 #[.val (.long q), .second, .val (.long (own_st q (own_st q (own_st q q)))), .second] [(.long q), (.long (2 : Int64)), (.long (own_st q (own_st q (own_st q q))))]))
  refine OwnGo.fwd (fun tq' kq' => XS.lloadN X0.here hx rfl (hb hby d5_37) rfl kq') ?_
  show OwnGo _ _ _ _ (s₁.setTop (mkF m 38 #[.val (.long q), .second, .val (.long (own_st q (own_st q (own_st q q)))), .second] [(.long (own_st q (own_st q (own_st q q)))), (.long q), (.long (2 : Int64)), (.long (own_st q (own_st q (own_st q q))))]))
  refine OwnGo.fwd (fun tq' kq' => XS.lmul X0.here hx rfl (hb hby d5_38) rfl kq') ?_
  show OwnGo _ _ _ _ (s₁.setTop (mkF m 39 #[.val (.long q), .second, .val (.long (own_st q (own_st q (own_st q q)))), .second] [(.long (q * (own_st q (own_st q (own_st q q))))), (.long (2 : Int64)), (.long (own_st q (own_st q (own_st q q))))]))
  refine OwnGo.fwd (fun tq' kq' => XS.lsub X0.here hx rfl (hb hby d5_39) rfl kq') ?_
  show OwnGo _ _ _ _ (s₁.setTop (mkF m 40 #[.val (.long q), .second, .val (.long (own_st q (own_st q (own_st q q)))), .second] [(.long ((2 : Int64) - (q * (own_st q (own_st q (own_st q q)))))), (.long (own_st q (own_st q (own_st q q))))]))
  refine OwnGo.fwd (fun tq' kq' => XS.lmul X0.here hx rfl (hb hby d5_40) rfl kq') ?_
  show OwnGo _ _ _ _ (s₁.setTop (mkF m 41 #[.val (.long q), .second, .val (.long (own_st q (own_st q (own_st q q)))), .second] [(.long ((own_st q (own_st q (own_st q q))) * ((2 : Int64) - (q * (own_st q (own_st q (own_st q q)))))))]))
  show OwnGo _ _ _ _ (s₁.setTop (mkF m 41 #[.val (.long q), .second, .val (.long (own_st q (own_st q (own_st q q)))), .second] [(.long (own_st q (own_st q (own_st q (own_st q q)))))]))
  refine OwnGo.fwd (fun tq' kq' => XS.lstoreN X0.here hx rfl (hb hby d5_41) rfl (l' := #[.val (.long q), .second, .val (.long (own_st q (own_st q (own_st q (own_st q q))))), .second]) rfl kq') ?_
  show OwnGo _ _ _ _ (s₁.setTop (mkF m 42 #[.val (.long q), .second, .val (.long (own_st q (own_st q (own_st q (own_st q q))))), .second] []))
  refine OwnGo.fwd (fun tq' kq' => XS.lloadN X0.here hx rfl (hb hby d5_42) rfl kq') ?_
  show OwnGo _ _ _ _ (s₁.setTop (mkF m 43 #[.val (.long q), .second, .val (.long (own_st q (own_st q (own_st q (own_st q q))))), .second] [(.long (own_st q (own_st q (own_st q (own_st q q)))))]))
  refine OwnGo.fwd (fun tq' kq' => X0.ldc2Long hx hown (mvT hZ (hw _ (List.mem_of_getElem? (i := 28) rfl))) (g := (mkF m 43 #[.val (.long q), .second, .val (.long (own_st q (own_st q (own_st q (own_st q q))))), .second] [(.long (own_st q (own_st q (own_st q (own_st q q)))))])) rfl (hb hby d5_43) tq' kq') ?_
  show OwnGo _ _ _ _ (s₁.setTop (mkF m 46 #[.val (.long q), .second, .val (.long (own_st q (own_st q (own_st q (own_st q q))))), .second] [(.long (2 : Int64)), (.long (own_st q (own_st q (own_st q (own_st q q)))))]))
  refine OwnGo.fwd (fun tq' kq' => XS.lloadN X0.here hx rfl (hb hby d5_46) rfl kq') ?_
  show OwnGo _ _ _ _ (s₁.setTop (mkF m 47 #[.val (.long q), .second, .val (.long (own_st q (own_st q (own_st q (own_st q q))))), .second] [(.long q), (.long (2 : Int64)), (.long (own_st q (own_st q (own_st q (own_st q q)))))]))
  refine OwnGo.fwd (fun tq' kq' => XS.lloadN X0.here hx rfl (hb hby d5_47) rfl kq') ?_
  show OwnGo _ _ _ _ (s₁.setTop (mkF m 48 #[.val (.long q), .second, .val (.long (own_st q (own_st q (own_st q (own_st q q))))), .second] [(.long (own_st q (own_st q (own_st q (own_st q q))))), (.long q), (.long (2 : Int64)), (.long (own_st q (own_st q (own_st q (own_st q q)))))]))
  refine OwnGo.fwd (fun tq' kq' => XS.lmul X0.here hx rfl (hb hby d5_48) rfl kq') ?_
  show OwnGo _ _ _ _ (s₁.setTop (mkF m 49 #[.val (.long q), .second, .val (.long (own_st q (own_st q (own_st q (own_st q q))))), .second] [(.long (q * (own_st q (own_st q (own_st q (own_st q q)))))), (.long (2 : Int64)), (.long (own_st q (own_st q (own_st q (own_st q q)))))]))
  refine OwnGo.fwd (fun tq' kq' => XS.lsub X0.here hx rfl (hb hby d5_49) rfl kq') ?_
  show OwnGo _ _ _ _ (s₁.setTop (mkF m 50 #[.val (.long q), .second, .val (.long (own_st q (own_st q (own_st q (own_st q q))))), .second] [(.long ((2 : Int64) - (q * (own_st q (own_st q (own_st q (own_st q q))))))), (.long (own_st q (own_st q (own_st q (own_st q q)))))]))
  refine OwnGo.fwd (fun tq' kq' => XS.lmul X0.here hx rfl (hb hby d5_50) rfl kq') ?_
  show OwnGo _ _ _ _ (s₁.setTop (mkF m 51 #[.val (.long q), .second, .val (.long (own_st q (own_st q (own_st q (own_st q q))))), .second] [(.long ((own_st q (own_st q (own_st q (own_st q q)))) * ((2 : Int64) - (q * (own_st q (own_st q (own_st q (own_st q q))))))))]))
  show OwnGo _ _ _ _ (s₁.setTop (mkF m 51 #[.val (.long q), .second, .val (.long (own_st q (own_st q (own_st q (own_st q q))))), .second] [(.long (own_st q (own_st q (own_st q (own_st q (own_st q q))))))]))
  refine OwnGo.fwd (fun tq' kq' => XS.lstoreN X0.here hx rfl (hb hby d5_51) rfl (l' := #[.val (.long q), .second, .val (.long (own_st q (own_st q (own_st q (own_st q (own_st q q)))))), .second]) rfl kq') ?_
  show OwnGo _ _ _ _ (s₁.setTop (mkF m 52 #[.val (.long q), .second, .val (.long (own_st q (own_st q (own_st q (own_st q (own_st q q)))))), .second] []))
  refine OwnGo.fwd (fun tq' kq' => XS.lloadN X0.here hx rfl (hb hby d5_52) rfl kq') ?_
  show OwnGo _ _ _ _ (s₁.setTop (mkF m 53 #[.val (.long q), .second, .val (.long (own_st q (own_st q (own_st q (own_st q (own_st q q)))))), .second] [(.long (own_st q (own_st q (own_st q (own_st q (own_st q q))))))]))
  refine OwnGo.fwd (fun tq' kq' => X0.ldc2Long hx hown (mvT hZ (hw _ (List.mem_of_getElem? (i := 28) rfl))) (g := (mkF m 53 #[.val (.long q), .second, .val (.long (own_st q (own_st q (own_st q (own_st q (own_st q q)))))), .second] [(.long (own_st q (own_st q (own_st q (own_st q (own_st q q))))))])) rfl (hb hby d5_53) tq' kq') ?_
  show OwnGo _ _ _ _ (s₁.setTop (mkF m 56 #[.val (.long q), .second, .val (.long (own_st q (own_st q (own_st q (own_st q (own_st q q)))))), .second] [(.long (2 : Int64)), (.long (own_st q (own_st q (own_st q (own_st q (own_st q q))))))]))
  refine OwnGo.fwd (fun tq' kq' => XS.lloadN X0.here hx rfl (hb hby d5_56) rfl kq') ?_
  show OwnGo _ _ _ _ (s₁.setTop (mkF m 57 #[.val (.long q), .second, .val (.long (own_st q (own_st q (own_st q (own_st q (own_st q q)))))), .second] [(.long q), (.long (2 : Int64)), (.long (own_st q (own_st q (own_st q (own_st q (own_st q q))))))]))
  refine OwnGo.fwd (fun tq' kq' => XS.lloadN X0.here hx rfl (hb hby d5_57) rfl kq') ?_
  show OwnGo _ _ _ _ (s₁.setTop (mkF m 58 #[.val (.long q), .second, .val (.long (own_st q (own_st q (own_st q (own_st q (own_st q q)))))), .second] [(.long (own_st q (own_st q (own_st q (own_st q (own_st q q)))))), (.long q), (.long (2 : Int64)), (.long (own_st q (own_st q (own_st q (own_st q (own_st q q))))))]))
  refine OwnGo.fwd (fun tq' kq' => XS.lmul X0.here hx rfl (hb hby d5_58) rfl kq') ?_
  show OwnGo _ _ _ _ (s₁.setTop (mkF m 59 #[.val (.long q), .second, .val (.long (own_st q (own_st q (own_st q (own_st q (own_st q q)))))), .second] [(.long (q * (own_st q (own_st q (own_st q (own_st q (own_st q q))))))), (.long (2 : Int64)), (.long (own_st q (own_st q (own_st q (own_st q (own_st q q))))))]))
  refine OwnGo.fwd (fun tq' kq' => XS.lsub X0.here hx rfl (hb hby d5_59) rfl kq') ?_
  show OwnGo _ _ _ _ (s₁.setTop (mkF m 60 #[.val (.long q), .second, .val (.long (own_st q (own_st q (own_st q (own_st q (own_st q q)))))), .second] [(.long ((2 : Int64) - (q * (own_st q (own_st q (own_st q (own_st q (own_st q q)))))))), (.long (own_st q (own_st q (own_st q (own_st q (own_st q q))))))]))
  refine OwnGo.fwd (fun tq' kq' => XS.lmul X0.here hx rfl (hb hby d5_60) rfl kq') ?_
  show OwnGo _ _ _ _ (s₁.setTop (mkF m 61 #[.val (.long q), .second, .val (.long (own_st q (own_st q (own_st q (own_st q (own_st q q)))))), .second] [(.long ((own_st q (own_st q (own_st q (own_st q (own_st q q))))) * ((2 : Int64) - (q * (own_st q (own_st q (own_st q (own_st q (own_st q q)))))))))]))
  show OwnGo _ _ _ _ (s₁.setTop (mkF m 61 #[.val (.long q), .second, .val (.long (own_st q (own_st q (own_st q (own_st q (own_st q q)))))), .second] [(.long (own_st q (own_st q (own_st q (own_st q (own_st q (own_st q q)))))))]))
  refine OwnGo.fwd (fun tq' kq' => XS.lstoreN X0.here hx rfl (hb hby d5_61) rfl (l' := #[.val (.long q), .second, .val (.long (own_st q (own_st q (own_st q (own_st q (own_st q (own_st q q))))))), .second]) rfl kq') ?_
  show OwnGo _ _ _ _ (s₁.setTop (mkF m 62 #[.val (.long q), .second, .val (.long (own_st q (own_st q (own_st q (own_st q (own_st q (own_st q q))))))), .second] []))
  refine OwnGo.fwd (fun tq' kq' => XS.lloadN X0.here hx rfl (hb hby d5_62) rfl kq') ?_
  show OwnGo _ _ _ _ (s₁.setTop (mkF m 63 #[.val (.long q), .second, .val (.long (own_st q (own_st q (own_st q (own_st q (own_st q (own_st q q))))))), .second] [(.long (own_st q (own_st q (own_st q (own_st q (own_st q (own_st q q)))))))]))
  exact own_retJ X0 hlk hx Bd.returns (hb hby d5_63) (by decide) (by decide) e0 ⟨rfl, N, rfl⟩
theorem d4_0 : decode method_3_code 0 = .ok (.lload_n 0, 1) := by decide +kernel
theorem d4_1 : decode method_3_code 1 = .ok (.lload_n 0, 1) := by decide +kernel
theorem d4_2 : decode method_3_code 2 = .ok (.bipush 31, 2) := by decide +kernel
theorem d4_4 : decode method_3_code 4 = .ok (.lushr, 1) := by decide +kernel
theorem d4_5 : decode method_3_code 5 = .ok (.lxor, 1) := by decide +kernel
theorem d4_6 : decode method_3_code 6 = .ok (.lload_n 0, 1) := by decide +kernel
theorem d4_7 : decode method_3_code 7 = .ok (.bipush 62, 2) := by decide +kernel
theorem d4_9 : decode method_3_code 9 = .ok (.lushr, 1) := by decide +kernel
theorem d4_10 : decode method_3_code 10 = .ok (.lxor, 1) := by decide +kernel
theorem d4_11 : decode method_3_code 11 = .ok (.lstore_n 2, 1) := by decide +kernel
theorem d4_12 : decode method_3_code 12 = .ok (.lload_n 2, 1) := by decide +kernel
theorem d4_13 : decode method_3_code 13 = .ok (.ldc2_w 9, 3) := by decide +kernel
theorem d4_16 : decode method_3_code 16 = .ok (.invokestatic 11, 3) := by decide +kernel
theorem d4_19 : decode method_3_code 19 = .ok (.lmul, 1) := by decide +kernel
theorem d4_20 : decode method_3_code 20 = .ok (.lstore_n 2, 1) := by decide +kernel
theorem d4_21 : decode method_3_code 21 = .ok (.lload_n 2, 1) := by decide +kernel
theorem d4_22 : decode method_3_code 22 = .ok (.lload_n 2, 1) := by decide +kernel
theorem d4_23 : decode method_3_code 23 = .ok (.bipush 27, 2) := by decide +kernel
theorem d4_25 : decode method_3_code 25 = .ok (.lushr, 1) := by decide +kernel
theorem d4_26 : decode method_3_code 26 = .ok (.lxor, 1) := by decide +kernel
theorem d4_27 : decode method_3_code 27 = .ok (.lload_n 2, 1) := by decide +kernel
theorem d4_28 : decode method_3_code 28 = .ok (.bipush 54, 2) := by decide +kernel
theorem d4_30 : decode method_3_code 30 = .ok (.lushr, 1) := by decide +kernel
theorem d4_31 : decode method_3_code 31 = .ok (.lxor, 1) := by decide +kernel
theorem d4_32 : decode method_3_code 32 = .ok (.lstore_n 2, 1) := by decide +kernel
theorem d4_33 : decode method_3_code 33 = .ok (.lload_n 2, 1) := by decide +kernel
theorem d4_34 : decode method_3_code 34 = .ok (.ldc2_w 17, 3) := by decide +kernel
theorem d4_37 : decode method_3_code 37 = .ok (.invokestatic 11, 3) := by decide +kernel
theorem d4_40 : decode method_3_code 40 = .ok (.lmul, 1) := by decide +kernel
theorem d4_41 : decode method_3_code 41 = .ok (.lstore_n 2, 1) := by decide +kernel
theorem d4_42 : decode method_3_code 42 = .ok (.lload_n 2, 1) := by decide +kernel
theorem d4_43 : decode method_3_code 43 = .ok (.lload_n 2, 1) := by decide +kernel
theorem d4_44 : decode method_3_code 44 = .ok (.bipush 30, 2) := by decide +kernel
theorem d4_46 : decode method_3_code 46 = .ok (.lushr, 1) := by decide +kernel
theorem d4_47 : decode method_3_code 47 = .ok (.lxor, 1) := by decide +kernel
theorem d4_48 : decode method_3_code 48 = .ok (.lload_n 2, 1) := by decide +kernel
theorem d4_49 : decode method_3_code 49 = .ok (.bipush 60, 2) := by decide +kernel
theorem d4_51 : decode method_3_code 51 = .ok (.lushr, 1) := by decide +kernel
theorem d4_52 : decode method_3_code 52 = .ok (.lxor, 1) := by decide +kernel
theorem d4_53 : decode method_3_code 53 = .ok (.lstore_n 2, 1) := by decide +kernel
theorem d4_54 : decode method_3_code 54 = .ok (.lload_n 2, 1) := by decide +kernel
theorem d4_55 : decode method_3_code 55 = .ok (.lreturn, 1) := by decide +kernel
theorem pn_4 : plainName "com/example/blindfold/blindfold/core/SeededRandomNextLongPinLaw" = true := by first | (simp [plainName, overriddenIn]; done) | decide +kernel
theorem ef_4 (m : MethodId) (x0 : Int64) : entryFrame m #[(.long x0)] 4 = mkF m 0 #[.val (.long x0), .second, .unset, .unset] [] := by first | (simp [entryFrame, mkF, argsToLocals, Value.category, maxLocals]; done) | rfl
def Q4 (Z : State) (q : Int64) (h0 : Heap) (n0 : Nat) (v : Option Value) (h : Heap) (L : List Loc) : Prop := v = some (.long (own_unmix q)) ∧ Fr n0 L ∧ h = h0
set_option maxRecDepth 65536 in
set_option maxHeartbeats 40000000 in
theorem rm4 (l : Launch) (Z : State) (a0 : Array Value) (hw : ∀ d ∈ tables_1, d.before a0 Z = true) (ws : List Jvm.Cond) (q : Int64) (h0 : Heap) (n0 : Nat) (Z0 : n0 ≤ h0.size) :
    MetFree l (⟨"com/example/blindfold/blindfold/core/SeededRandomNextLongPinLaw", "unmix", "(J)J"⟩ : MethodName) (head1 (Jvm.Cond.code (⟨"com/example/blindfold/blindfold/core/SeededRandomNextLongPinLaw", "unmix", "(J)J"⟩ : MethodName) method_3_code 4 (some .long) :: ws) ({ frames := 1, cells := 0, slots := 0, locals := 17 } : Room)) (fun arr' U => arr' = #[(.long q)] ∧ Z.Warmed39 U.vm ∧ U.heap = h0) (fun _ _ _ _ _ => True) (fun _ U o U' => ∃ v L, o = .returned v ∧ (Q4 Z q h0 n0) v U'.heap L ∧ FrameEnd U o U' L ({ frames := 1, cells := 0, slots := 0, locals := 17 } : Room).cells ({ frames := 1, cells := 0, slots := 0, locals := 17 } : Room).slots) := by
  refine MetFree.of_bodySF (plainFor_of_name pn_4) hisR ?_
  intro p e s m args below meth c s₁ Bd hml0 hP hK
  obtain ⟨rfl, hZ, hh⟩ := hP
  have hx := Bd.exec
  have hby := Bd.bytes
  have hlk : meth.locks = false := BodyLoose.notSynchronized Bd
  have hml : c.maxLocals = 4 := hml0
  have hown : s.vm.findClass "com/example/blindfold/blindfold/core/SeededRandomNextLongPinLaw" = some m.cls := findClass_of_methodNamed Bd.named
  have hnm := (name_of_methodNamed Bd.named Bd.method).1
  have X0 : Stand p l e ({ frames := 1, cells := 0, slots := 0, locals := 17 } : Room) s m #[(.long q)] below meth c s₁ [] 0 0 := Stand.of_body Bd
  have e0 : s₁.heap = h0 := by rw [← hh, Bd.state]; rfl
  have N := Fr.nil n0
  have Zs := Z0
  change OwnGo p.tables e below (OwnEnd s (Q4 Z q h0 n0) ({ frames := 1, cells := 0, slots := 0, locals := 17 } : Room).cells ({ frames := 1, cells := 0, slots := 0, locals := 17 } : Room).slots) _
  refine OwnGo.fwd (fun tq' kq' => castTop (ef_4 m q) kq') ?_
  show OwnGo _ _ _ _ (s₁.setTop (mkF m 0 #[.val (.long q), .second, .unset, .unset] []))
  refine OwnGo.fwd (fun tq' kq' => XS.lloadN X0.here hx rfl (hb hby d4_0) rfl kq') ?_
  show OwnGo _ _ _ _ (s₁.setTop (mkF m 1 #[.val (.long q), .second, .unset, .unset] [(.long q)]))
  refine OwnGo.fwd (fun tq' kq' => XS.lloadN X0.here hx rfl (hb hby d4_1) rfl kq') ?_
  show OwnGo _ _ _ _ (s₁.setTop (mkF m 2 #[.val (.long q), .second, .unset, .unset] [(.long q), (.long q)]))
  refine OwnGo.fwd (fun tq' kq' => XS.bipush X0.here hx rfl (hb hby d4_2) kq') ?_
  show OwnGo _ _ _ _ (s₁.setTop (mkF m 4 #[.val (.long q), .second, .unset, .unset] [(.int (31 : Int32)), (.long q), (.long q)]))
  refine OwnGo.fwd (fun tq' kq' => XS.lushr X0.here hx rfl (hb hby d4_4) rfl kq') ?_
  show OwnGo _ _ _ _ (s₁.setTop (mkF m 5 #[.val (.long q), .second, .unset, .unset] [(.long ((q.toUInt64 >>> ((31 : Int32) &&& 0x3f).toInt64.toUInt64).toInt64)), (.long q)]))
  refine OwnGo.fwd (fun tq' kq' => XS.lxor X0.here hx rfl (hb hby d4_5) rfl kq') ?_
  show OwnGo _ _ _ _ (s₁.setTop (mkF m 6 #[.val (.long q), .second, .unset, .unset] [(.long (q ^^^ ((q.toUInt64 >>> ((31 : Int32) &&& 0x3f).toInt64.toUInt64).toInt64)))]))
  refine OwnGo.fwd (fun tq' kq' => XS.lloadN X0.here hx rfl (hb hby d4_6) rfl kq') ?_
  show OwnGo _ _ _ _ (s₁.setTop (mkF m 7 #[.val (.long q), .second, .unset, .unset] [(.long q), (.long (q ^^^ ((q.toUInt64 >>> ((31 : Int32) &&& 0x3f).toInt64.toUInt64).toInt64)))]))
  refine OwnGo.fwd (fun tq' kq' => XS.bipush X0.here hx rfl (hb hby d4_7) kq') ?_
  show OwnGo _ _ _ _ (s₁.setTop (mkF m 9 #[.val (.long q), .second, .unset, .unset] [(.int (62 : Int32)), (.long q), (.long (q ^^^ ((q.toUInt64 >>> ((31 : Int32) &&& 0x3f).toInt64.toUInt64).toInt64)))]))
  refine OwnGo.fwd (fun tq' kq' => XS.lushr X0.here hx rfl (hb hby d4_9) rfl kq') ?_
  show OwnGo _ _ _ _ (s₁.setTop (mkF m 10 #[.val (.long q), .second, .unset, .unset] [(.long ((q.toUInt64 >>> ((62 : Int32) &&& 0x3f).toInt64.toUInt64).toInt64)), (.long (q ^^^ ((q.toUInt64 >>> ((31 : Int32) &&& 0x3f).toInt64.toUInt64).toInt64)))]))
  refine OwnGo.fwd (fun tq' kq' => XS.lxor X0.here hx rfl (hb hby d4_10) rfl kq') ?_
  show OwnGo _ _ _ _ (s₁.setTop (mkF m 11 #[.val (.long q), .second, .unset, .unset] [(.long ((q ^^^ ((q.toUInt64 >>> ((31 : Int32) &&& 0x3f).toInt64.toUInt64).toInt64)) ^^^ ((q.toUInt64 >>> ((62 : Int32) &&& 0x3f).toInt64.toUInt64).toInt64)))]))
  show OwnGo _ _ _ _ (s₁.setTop (mkF m 11 #[.val (.long q), .second, .unset, .unset] [(.long (own_u q 31 62))]))
  refine OwnGo.fwd (fun tq' kq' => XS.lstoreN X0.here hx rfl (hb hby d4_11) rfl (l' := #[.val (.long q), .second, .val (.long (own_u q 31 62)), .second]) rfl kq') ?_
  show OwnGo _ _ _ _ (s₁.setTop (mkF m 12 #[.val (.long q), .second, .val (.long (own_u q 31 62)), .second] []))
  refine OwnGo.fwd (fun tq' kq' => XS.lloadN X0.here hx rfl (hb hby d4_12) rfl kq') ?_
  show OwnGo _ _ _ _ (s₁.setTop (mkF m 13 #[.val (.long q), .second, .val (.long (own_u q 31 62)), .second] [(.long (own_u q 31 62))]))
  refine OwnGo.fwd (fun tq' kq' => X0.ldc2Long hx hown (mvT hZ (hw _ (List.mem_of_getElem? (i := 24) rfl))) (g := (mkF m 13 #[.val (.long q), .second, .val (.long (own_u q 31 62)), .second] [(.long (own_u q 31 62))])) rfl (hb hby d4_13) tq' kq') ?_
  show OwnGo _ _ _ _ (s₁.setTop (mkF m 16 #[.val (.long q), .second, .val (.long (own_u q 31 62)), .second] [(.long (-7723592293110705685 : Int64)), (.long (own_u q 31 62))]))
  obtain ⟨_, _, ⟨T1, L1, k1, n1⟩, -, X1, ⟨Lc1, hQ1, l1, y1, z1⟩, st1⟩ := Jvm.LawKit.callS X0 hx (y := (⟨"com/example/blindfold/blindfold/core/SeededRandomNextLongPinLaw", "inverse", "(J)J"⟩ : MethodName)) hown (mvT hZ (hw _ (List.mem_of_getElem? (i := 25) rfl))) (mvT hZ (hw _ (List.mem_of_getElem? (i := 26) rfl))) (mvT hZ (hw _ (List.mem_of_getElem? (i := 22) rfl))) (mvT hZ (hw _ (List.mem_of_getElem? (i := 27) rfl))) (by decide) (backOf (W := 2) (rm5 l Z a0 hw [] (-7723592293110705685 : Int64) h0 n0 Zs) hZ (hw _ (List.mem_of_getElem? (i := 27) rfl)) (hw _ (List.mem_of_getElem? (i := 22) rfl)) (by decide) (by decide)) (g := (mkF m 16 #[.val (.long q), .second, .val (.long (own_u q 31 62)), .second] [(.long (-7723592293110705685 : Int64)), (.long (own_u q 31 62))])) rfl (by rw [hml]; rfl) (argsL := [(.long (-7723592293110705685 : Int64))]) (rest := [(.long (own_u q 31 62))]) (lenOf pd_2 rfl) rfl (by show 2 * 0 + _ ≤ _; exact Nat.le_of_eq rfl) (hb hby d4_16) (fun _ _ => ⟨rfl, e0, (by decide : 0 + 0 ≤ _), (by decide : 0 + 0 ≤ _)⟩)
  dsimp only [Pt.U, Pt.locs, Pt.cells, Pt.slots] at X1 l1 y1 z1 st1 hQ1
  subst l1 y1 z1
  obtain ⟨rfl, N1q, e1⟩ := hQ1
  have N := Fr.app N N1q
  refine OwnGo.fwd st1 ?_
  show OwnGo _ _ _ _ (T1.setTop (mkF m 19 #[.val (.long q), .second, .val (.long (own_u q 31 62)), .second] [(.long (own_inv (-7723592293110705685 : Int64))), (.long (own_u q 31 62))]))
  refine OwnGo.fwd (fun tq' kq' => XS.lmul X1.here hx rfl (hb hby d4_19) rfl kq') ?_
  show OwnGo _ _ _ _ (T1.setTop (mkF m 20 #[.val (.long q), .second, .val (.long (own_u q 31 62)), .second] [(.long ((own_u q 31 62) * (own_inv (-7723592293110705685 : Int64))))]))
  show OwnGo _ _ _ _ (T1.setTop (mkF m 20 #[.val (.long q), .second, .val (.long (own_u q 31 62)), .second] [(.long ((own_u q 31 62) * own_inv (-7723592293110705685 : Int64)))]))
  refine OwnGo.fwd (fun tq' kq' => XS.lstoreN X1.here hx rfl (hb hby d4_20) rfl (l' := #[.val (.long q), .second, .val (.long ((own_u q 31 62) * own_inv (-7723592293110705685 : Int64))), .second]) rfl kq') ?_
  show OwnGo _ _ _ _ (T1.setTop (mkF m 21 #[.val (.long q), .second, .val (.long ((own_u q 31 62) * own_inv (-7723592293110705685 : Int64))), .second] []))
  refine OwnGo.fwd (fun tq' kq' => XS.lloadN X1.here hx rfl (hb hby d4_21) rfl kq') ?_
  show OwnGo _ _ _ _ (T1.setTop (mkF m 22 #[.val (.long q), .second, .val (.long ((own_u q 31 62) * own_inv (-7723592293110705685 : Int64))), .second] [(.long ((own_u q 31 62) * own_inv (-7723592293110705685 : Int64)))]))
  refine OwnGo.fwd (fun tq' kq' => XS.lloadN X1.here hx rfl (hb hby d4_22) rfl kq') ?_
  show OwnGo _ _ _ _ (T1.setTop (mkF m 23 #[.val (.long q), .second, .val (.long ((own_u q 31 62) * own_inv (-7723592293110705685 : Int64))), .second] [(.long ((own_u q 31 62) * own_inv (-7723592293110705685 : Int64))), (.long ((own_u q 31 62) * own_inv (-7723592293110705685 : Int64)))]))
  refine OwnGo.fwd (fun tq' kq' => XS.bipush X1.here hx rfl (hb hby d4_23) kq') ?_
  show OwnGo _ _ _ _ (T1.setTop (mkF m 25 #[.val (.long q), .second, .val (.long ((own_u q 31 62) * own_inv (-7723592293110705685 : Int64))), .second] [(.int (27 : Int32)), (.long ((own_u q 31 62) * own_inv (-7723592293110705685 : Int64))), (.long ((own_u q 31 62) * own_inv (-7723592293110705685 : Int64)))]))
  refine OwnGo.fwd (fun tq' kq' => XS.lushr X1.here hx rfl (hb hby d4_25) rfl kq') ?_
  show OwnGo _ _ _ _ (T1.setTop (mkF m 26 #[.val (.long q), .second, .val (.long ((own_u q 31 62) * own_inv (-7723592293110705685 : Int64))), .second] [(.long ((((own_u q 31 62) * own_inv (-7723592293110705685 : Int64)).toUInt64 >>> ((27 : Int32) &&& 0x3f).toInt64.toUInt64).toInt64)), (.long ((own_u q 31 62) * own_inv (-7723592293110705685 : Int64)))]))
  refine OwnGo.fwd (fun tq' kq' => XS.lxor X1.here hx rfl (hb hby d4_26) rfl kq') ?_
  show OwnGo _ _ _ _ (T1.setTop (mkF m 27 #[.val (.long q), .second, .val (.long ((own_u q 31 62) * own_inv (-7723592293110705685 : Int64))), .second] [(.long (((own_u q 31 62) * own_inv (-7723592293110705685 : Int64)) ^^^ ((((own_u q 31 62) * own_inv (-7723592293110705685 : Int64)).toUInt64 >>> ((27 : Int32) &&& 0x3f).toInt64.toUInt64).toInt64)))]))
  refine OwnGo.fwd (fun tq' kq' => XS.lloadN X1.here hx rfl (hb hby d4_27) rfl kq') ?_
  show OwnGo _ _ _ _ (T1.setTop (mkF m 28 #[.val (.long q), .second, .val (.long ((own_u q 31 62) * own_inv (-7723592293110705685 : Int64))), .second] [(.long ((own_u q 31 62) * own_inv (-7723592293110705685 : Int64))), (.long (((own_u q 31 62) * own_inv (-7723592293110705685 : Int64)) ^^^ ((((own_u q 31 62) * own_inv (-7723592293110705685 : Int64)).toUInt64 >>> ((27 : Int32) &&& 0x3f).toInt64.toUInt64).toInt64)))]))
  refine OwnGo.fwd (fun tq' kq' => XS.bipush X1.here hx rfl (hb hby d4_28) kq') ?_
  show OwnGo _ _ _ _ (T1.setTop (mkF m 30 #[.val (.long q), .second, .val (.long ((own_u q 31 62) * own_inv (-7723592293110705685 : Int64))), .second] [(.int (54 : Int32)), (.long ((own_u q 31 62) * own_inv (-7723592293110705685 : Int64))), (.long (((own_u q 31 62) * own_inv (-7723592293110705685 : Int64)) ^^^ ((((own_u q 31 62) * own_inv (-7723592293110705685 : Int64)).toUInt64 >>> ((27 : Int32) &&& 0x3f).toInt64.toUInt64).toInt64)))]))
  refine OwnGo.fwd (fun tq' kq' => XS.lushr X1.here hx rfl (hb hby d4_30) rfl kq') ?_
  show OwnGo _ _ _ _ (T1.setTop (mkF m 31 #[.val (.long q), .second, .val (.long ((own_u q 31 62) * own_inv (-7723592293110705685 : Int64))), .second] [(.long ((((own_u q 31 62) * own_inv (-7723592293110705685 : Int64)).toUInt64 >>> ((54 : Int32) &&& 0x3f).toInt64.toUInt64).toInt64)), (.long (((own_u q 31 62) * own_inv (-7723592293110705685 : Int64)) ^^^ ((((own_u q 31 62) * own_inv (-7723592293110705685 : Int64)).toUInt64 >>> ((27 : Int32) &&& 0x3f).toInt64.toUInt64).toInt64)))]))
  refine OwnGo.fwd (fun tq' kq' => XS.lxor X1.here hx rfl (hb hby d4_31) rfl kq') ?_
  show OwnGo _ _ _ _ (T1.setTop (mkF m 32 #[.val (.long q), .second, .val (.long ((own_u q 31 62) * own_inv (-7723592293110705685 : Int64))), .second] [(.long ((((own_u q 31 62) * own_inv (-7723592293110705685 : Int64)) ^^^ ((((own_u q 31 62) * own_inv (-7723592293110705685 : Int64)).toUInt64 >>> ((27 : Int32) &&& 0x3f).toInt64.toUInt64).toInt64)) ^^^ ((((own_u q 31 62) * own_inv (-7723592293110705685 : Int64)).toUInt64 >>> ((54 : Int32) &&& 0x3f).toInt64.toUInt64).toInt64)))]))
  show OwnGo _ _ _ _ (T1.setTop (mkF m 32 #[.val (.long q), .second, .val (.long ((own_u q 31 62) * own_inv (-7723592293110705685 : Int64))), .second] [(.long (own_u ((own_u q 31 62) * own_inv (-7723592293110705685 : Int64)) 27 54))]))
  refine OwnGo.fwd (fun tq' kq' => XS.lstoreN X1.here hx rfl (hb hby d4_32) rfl (l' := #[.val (.long q), .second, .val (.long (own_u ((own_u q 31 62) * own_inv (-7723592293110705685 : Int64)) 27 54)), .second]) rfl kq') ?_
  show OwnGo _ _ _ _ (T1.setTop (mkF m 33 #[.val (.long q), .second, .val (.long (own_u ((own_u q 31 62) * own_inv (-7723592293110705685 : Int64)) 27 54)), .second] []))
  refine OwnGo.fwd (fun tq' kq' => XS.lloadN X1.here hx rfl (hb hby d4_33) rfl kq') ?_
  show OwnGo _ _ _ _ (T1.setTop (mkF m 34 #[.val (.long q), .second, .val (.long (own_u ((own_u q 31 62) * own_inv (-7723592293110705685 : Int64)) 27 54)), .second] [(.long (own_u ((own_u q 31 62) * own_inv (-7723592293110705685 : Int64)) 27 54))]))
  refine OwnGo.fwd (fun tq' kq' => X1.ldc2Long hx hown (mvT hZ (hw _ (List.mem_of_getElem? (i := 29) rfl))) (g := (mkF m 34 #[.val (.long q), .second, .val (.long (own_u ((own_u q 31 62) * own_inv (-7723592293110705685 : Int64)) 27 54)), .second] [(.long (own_u ((own_u q 31 62) * own_inv (-7723592293110705685 : Int64)) 27 54))])) rfl (hb hby d4_34) tq' kq') ?_
  show OwnGo _ _ _ _ (T1.setTop (mkF m 37 #[.val (.long q), .second, .val (.long (own_u ((own_u q 31 62) * own_inv (-7723592293110705685 : Int64)) 27 54)), .second] [(.long (-4658895280553007687 : Int64)), (.long (own_u ((own_u q 31 62) * own_inv (-7723592293110705685 : Int64)) 27 54))]))
  obtain ⟨_, _, ⟨T2, L2, k2, n2⟩, -, X2, ⟨Lc2, hQ2, l2, y2, z2⟩, st2⟩ := Jvm.LawKit.callS X1 hx (y := (⟨"com/example/blindfold/blindfold/core/SeededRandomNextLongPinLaw", "inverse", "(J)J"⟩ : MethodName)) hown (mvT hZ (hw _ (List.mem_of_getElem? (i := 25) rfl))) (mvT hZ (hw _ (List.mem_of_getElem? (i := 26) rfl))) (mvT hZ (hw _ (List.mem_of_getElem? (i := 22) rfl))) (mvT hZ (hw _ (List.mem_of_getElem? (i := 27) rfl))) (by decide) (backOf (W := 2) (rm5 l Z a0 hw [] (-4658895280553007687 : Int64) h0 n0 Zs) hZ (hw _ (List.mem_of_getElem? (i := 27) rfl)) (hw _ (List.mem_of_getElem? (i := 22) rfl)) (by decide) (by decide)) (g := (mkF m 37 #[.val (.long q), .second, .val (.long (own_u ((own_u q 31 62) * own_inv (-7723592293110705685 : Int64)) 27 54)), .second] [(.long (-4658895280553007687 : Int64)), (.long (own_u ((own_u q 31 62) * own_inv (-7723592293110705685 : Int64)) 27 54))])) rfl (by rw [hml]; rfl) (argsL := [(.long (-4658895280553007687 : Int64))]) (rest := [(.long (own_u ((own_u q 31 62) * own_inv (-7723592293110705685 : Int64)) 27 54))]) (lenOf pd_2 rfl) rfl (by show 2 * 0 + _ ≤ _; exact Nat.le_of_eq rfl) (hb hby d4_37) (fun _ _ => ⟨rfl, e1, (by decide : 0 + 0 ≤ _), (by decide : 0 + 0 ≤ _)⟩)
  dsimp only [Pt.U, Pt.locs, Pt.cells, Pt.slots] at X2 l2 y2 z2 st2 hQ2
  subst l2 y2 z2
  obtain ⟨rfl, N2q, e2⟩ := hQ2
  have N := Fr.app N N2q
  refine OwnGo.fwd st2 ?_
  show OwnGo _ _ _ _ (T2.setTop (mkF m 40 #[.val (.long q), .second, .val (.long (own_u ((own_u q 31 62) * own_inv (-7723592293110705685 : Int64)) 27 54)), .second] [(.long (own_inv (-4658895280553007687 : Int64))), (.long (own_u ((own_u q 31 62) * own_inv (-7723592293110705685 : Int64)) 27 54))]))
  refine OwnGo.fwd (fun tq' kq' => XS.lmul X2.here hx rfl (hb hby d4_40) rfl kq') ?_
  show OwnGo _ _ _ _ (T2.setTop (mkF m 41 #[.val (.long q), .second, .val (.long (own_u ((own_u q 31 62) * own_inv (-7723592293110705685 : Int64)) 27 54)), .second] [(.long ((own_u ((own_u q 31 62) * own_inv (-7723592293110705685 : Int64)) 27 54) * (own_inv (-4658895280553007687 : Int64))))]))
  show OwnGo _ _ _ _ (T2.setTop (mkF m 41 #[.val (.long q), .second, .val (.long (own_u ((own_u q 31 62) * own_inv (-7723592293110705685 : Int64)) 27 54)), .second] [(.long ((own_u ((own_u q 31 62) * own_inv (-7723592293110705685 : Int64)) 27 54) * own_inv (-4658895280553007687 : Int64)))]))
  refine OwnGo.fwd (fun tq' kq' => XS.lstoreN X2.here hx rfl (hb hby d4_41) rfl (l' := #[.val (.long q), .second, .val (.long ((own_u ((own_u q 31 62) * own_inv (-7723592293110705685 : Int64)) 27 54) * own_inv (-4658895280553007687 : Int64))), .second]) rfl kq') ?_
  show OwnGo _ _ _ _ (T2.setTop (mkF m 42 #[.val (.long q), .second, .val (.long ((own_u ((own_u q 31 62) * own_inv (-7723592293110705685 : Int64)) 27 54) * own_inv (-4658895280553007687 : Int64))), .second] []))
  refine OwnGo.fwd (fun tq' kq' => XS.lloadN X2.here hx rfl (hb hby d4_42) rfl kq') ?_
  show OwnGo _ _ _ _ (T2.setTop (mkF m 43 #[.val (.long q), .second, .val (.long ((own_u ((own_u q 31 62) * own_inv (-7723592293110705685 : Int64)) 27 54) * own_inv (-4658895280553007687 : Int64))), .second] [(.long ((own_u ((own_u q 31 62) * own_inv (-7723592293110705685 : Int64)) 27 54) * own_inv (-4658895280553007687 : Int64)))]))
  refine OwnGo.fwd (fun tq' kq' => XS.lloadN X2.here hx rfl (hb hby d4_43) rfl kq') ?_
  show OwnGo _ _ _ _ (T2.setTop (mkF m 44 #[.val (.long q), .second, .val (.long ((own_u ((own_u q 31 62) * own_inv (-7723592293110705685 : Int64)) 27 54) * own_inv (-4658895280553007687 : Int64))), .second] [(.long ((own_u ((own_u q 31 62) * own_inv (-7723592293110705685 : Int64)) 27 54) * own_inv (-4658895280553007687 : Int64))), (.long ((own_u ((own_u q 31 62) * own_inv (-7723592293110705685 : Int64)) 27 54) * own_inv (-4658895280553007687 : Int64)))]))
  refine OwnGo.fwd (fun tq' kq' => XS.bipush X2.here hx rfl (hb hby d4_44) kq') ?_
  show OwnGo _ _ _ _ (T2.setTop (mkF m 46 #[.val (.long q), .second, .val (.long ((own_u ((own_u q 31 62) * own_inv (-7723592293110705685 : Int64)) 27 54) * own_inv (-4658895280553007687 : Int64))), .second] [(.int (30 : Int32)), (.long ((own_u ((own_u q 31 62) * own_inv (-7723592293110705685 : Int64)) 27 54) * own_inv (-4658895280553007687 : Int64))), (.long ((own_u ((own_u q 31 62) * own_inv (-7723592293110705685 : Int64)) 27 54) * own_inv (-4658895280553007687 : Int64)))]))
  refine OwnGo.fwd (fun tq' kq' => XS.lushr X2.here hx rfl (hb hby d4_46) rfl kq') ?_
  show OwnGo _ _ _ _ (T2.setTop (mkF m 47 #[.val (.long q), .second, .val (.long ((own_u ((own_u q 31 62) * own_inv (-7723592293110705685 : Int64)) 27 54) * own_inv (-4658895280553007687 : Int64))), .second] [(.long ((((own_u ((own_u q 31 62) * own_inv (-7723592293110705685 : Int64)) 27 54) * own_inv (-4658895280553007687 : Int64)).toUInt64 >>> ((30 : Int32) &&& 0x3f).toInt64.toUInt64).toInt64)), (.long ((own_u ((own_u q 31 62) * own_inv (-7723592293110705685 : Int64)) 27 54) * own_inv (-4658895280553007687 : Int64)))]))
  refine OwnGo.fwd (fun tq' kq' => XS.lxor X2.here hx rfl (hb hby d4_47) rfl kq') ?_
  show OwnGo _ _ _ _ (T2.setTop (mkF m 48 #[.val (.long q), .second, .val (.long ((own_u ((own_u q 31 62) * own_inv (-7723592293110705685 : Int64)) 27 54) * own_inv (-4658895280553007687 : Int64))), .second] [(.long (((own_u ((own_u q 31 62) * own_inv (-7723592293110705685 : Int64)) 27 54) * own_inv (-4658895280553007687 : Int64)) ^^^ ((((own_u ((own_u q 31 62) * own_inv (-7723592293110705685 : Int64)) 27 54) * own_inv (-4658895280553007687 : Int64)).toUInt64 >>> ((30 : Int32) &&& 0x3f).toInt64.toUInt64).toInt64)))]))
  refine OwnGo.fwd (fun tq' kq' => XS.lloadN X2.here hx rfl (hb hby d4_48) rfl kq') ?_
  show OwnGo _ _ _ _ (T2.setTop (mkF m 49 #[.val (.long q), .second, .val (.long ((own_u ((own_u q 31 62) * own_inv (-7723592293110705685 : Int64)) 27 54) * own_inv (-4658895280553007687 : Int64))), .second] [(.long ((own_u ((own_u q 31 62) * own_inv (-7723592293110705685 : Int64)) 27 54) * own_inv (-4658895280553007687 : Int64))), (.long (((own_u ((own_u q 31 62) * own_inv (-7723592293110705685 : Int64)) 27 54) * own_inv (-4658895280553007687 : Int64)) ^^^ ((((own_u ((own_u q 31 62) * own_inv (-7723592293110705685 : Int64)) 27 54) * own_inv (-4658895280553007687 : Int64)).toUInt64 >>> ((30 : Int32) &&& 0x3f).toInt64.toUInt64).toInt64)))]))
  refine OwnGo.fwd (fun tq' kq' => XS.bipush X2.here hx rfl (hb hby d4_49) kq') ?_
  show OwnGo _ _ _ _ (T2.setTop (mkF m 51 #[.val (.long q), .second, .val (.long ((own_u ((own_u q 31 62) * own_inv (-7723592293110705685 : Int64)) 27 54) * own_inv (-4658895280553007687 : Int64))), .second] [(.int (60 : Int32)), (.long ((own_u ((own_u q 31 62) * own_inv (-7723592293110705685 : Int64)) 27 54) * own_inv (-4658895280553007687 : Int64))), (.long (((own_u ((own_u q 31 62) * own_inv (-7723592293110705685 : Int64)) 27 54) * own_inv (-4658895280553007687 : Int64)) ^^^ ((((own_u ((own_u q 31 62) * own_inv (-7723592293110705685 : Int64)) 27 54) * own_inv (-4658895280553007687 : Int64)).toUInt64 >>> ((30 : Int32) &&& 0x3f).toInt64.toUInt64).toInt64)))]))
  refine OwnGo.fwd (fun tq' kq' => XS.lushr X2.here hx rfl (hb hby d4_51) rfl kq') ?_
  show OwnGo _ _ _ _ (T2.setTop (mkF m 52 #[.val (.long q), .second, .val (.long ((own_u ((own_u q 31 62) * own_inv (-7723592293110705685 : Int64)) 27 54) * own_inv (-4658895280553007687 : Int64))), .second] [(.long ((((own_u ((own_u q 31 62) * own_inv (-7723592293110705685 : Int64)) 27 54) * own_inv (-4658895280553007687 : Int64)).toUInt64 >>> ((60 : Int32) &&& 0x3f).toInt64.toUInt64).toInt64)), (.long (((own_u ((own_u q 31 62) * own_inv (-7723592293110705685 : Int64)) 27 54) * own_inv (-4658895280553007687 : Int64)) ^^^ ((((own_u ((own_u q 31 62) * own_inv (-7723592293110705685 : Int64)) 27 54) * own_inv (-4658895280553007687 : Int64)).toUInt64 >>> ((30 : Int32) &&& 0x3f).toInt64.toUInt64).toInt64)))]))
  refine OwnGo.fwd (fun tq' kq' => XS.lxor X2.here hx rfl (hb hby d4_52) rfl kq') ?_
  show OwnGo _ _ _ _ (T2.setTop (mkF m 53 #[.val (.long q), .second, .val (.long ((own_u ((own_u q 31 62) * own_inv (-7723592293110705685 : Int64)) 27 54) * own_inv (-4658895280553007687 : Int64))), .second] [(.long ((((own_u ((own_u q 31 62) * own_inv (-7723592293110705685 : Int64)) 27 54) * own_inv (-4658895280553007687 : Int64)) ^^^ ((((own_u ((own_u q 31 62) * own_inv (-7723592293110705685 : Int64)) 27 54) * own_inv (-4658895280553007687 : Int64)).toUInt64 >>> ((30 : Int32) &&& 0x3f).toInt64.toUInt64).toInt64)) ^^^ ((((own_u ((own_u q 31 62) * own_inv (-7723592293110705685 : Int64)) 27 54) * own_inv (-4658895280553007687 : Int64)).toUInt64 >>> ((60 : Int32) &&& 0x3f).toInt64.toUInt64).toInt64)))]))
  show OwnGo _ _ _ _ (T2.setTop (mkF m 53 #[.val (.long q), .second, .val (.long ((own_u ((own_u q 31 62) * own_inv (-7723592293110705685 : Int64)) 27 54) * own_inv (-4658895280553007687 : Int64))), .second] [(.long (own_unmix q))]))
  refine OwnGo.fwd (fun tq' kq' => XS.lstoreN X2.here hx rfl (hb hby d4_53) rfl (l' := #[.val (.long q), .second, .val (.long (own_unmix q)), .second]) rfl kq') ?_
  show OwnGo _ _ _ _ (T2.setTop (mkF m 54 #[.val (.long q), .second, .val (.long (own_unmix q)), .second] []))
  refine OwnGo.fwd (fun tq' kq' => XS.lloadN X2.here hx rfl (hb hby d4_54) rfl kq') ?_
  show OwnGo _ _ _ _ (T2.setTop (mkF m 55 #[.val (.long q), .second, .val (.long (own_unmix q)), .second] [(.long (own_unmix q))]))
  exact own_retJ X2 hlk hx Bd.returns (hb hby d4_55) (by decide) (by decide) e2 ⟨rfl, N, rfl⟩
theorem pn_0 : plainName "com/example/blindfold/blindfold/core/SeededRandomNextLongPinLaw" = true := by first | (simp [plainName, overriddenIn]; done) | decide +kernel
theorem ef_0 (m : MethodId) (x0 : Int64) : entryFrame m #[(.long x0)] maxLocals = mkF m 0 #[.val (.long x0), .second, .unset, .unset, .unset, .unset, .unset, .unset, .unset] [] := by first | (simp [entryFrame, mkF, argsToLocals, Value.category, maxLocals]; done) | rfl
def Q0 (Z : State) (q : Int64) (h0 : Heap) (n0 : Nat) (v : Option Value) (h : Heap) (L : List Loc) : Prop := v = some (.int 1) ∧ Fr n0 L
set_option maxRecDepth 65536 in
set_option maxHeartbeats 40000000 in
theorem rm0 (l : Launch) (Z : State) (a0 : Array Value) (hw : ∀ d ∈ tables_1, d.before a0 Z = true) (ws : List Jvm.Cond) (q : Int64) (h0 : Heap) (n0 : Nat) (Z0 : n0 ≤ h0.size) :
    MetFree l x (head1 (Jvm.Cond.code x code maxLocals ret :: ws) room_1) (fun arr' U => arr' = #[(.long q)] ∧ Z.Warmed39 U.vm ∧ U.heap = h0) (fun _ _ _ _ _ => True) (fun _ U o U' => ∃ v L, o = .returned v ∧ (Q0 Z q h0 n0) v U'.heap L ∧ FrameEnd U o U' L room_1.cells room_1.slots) := by
  refine MetFree.of_bodySF (plainFor_of_name pn_0) hisR ?_
  intro p e s m args below meth c s₁ Bd hml0 hP hK
  obtain ⟨rfl, hZ, hh⟩ := hP
  have hx := Bd.exec
  have hby := Bd.bytes
  have hlk : meth.locks = false := BodyLoose.notSynchronized Bd
  have hml : c.maxLocals = 9 := hml0
  have hown : s.vm.findClass "com/example/blindfold/blindfold/core/SeededRandomNextLongPinLaw" = some m.cls := findClass_of_methodNamed Bd.named
  have hnm := (name_of_methodNamed Bd.named Bd.method).1
  have X0 : Stand p l e room_1 s m #[(.long q)] below meth c s₁ [] 0 0 := Stand.of_body Bd
  have e0 : s₁.heap = h0 := by rw [← hh, Bd.state]; rfl
  have N := Fr.nil n0
  have Zs := Z0
  change OwnGo p.tables e below (OwnEnd s (Q0 Z q h0 n0) room_1.cells room_1.slots) _
  refine OwnGo.fwd (fun tq' kq' => castTop (ef_0 m q) kq') ?_
  show OwnGo _ _ _ _ (s₁.setTop (mkF m 0 #[.val (.long q), .second, .unset, .unset, .unset, .unset, .unset, .unset, .unset] []))
  refine OwnGo.fwd (fun tq' kq' => X0.ldc2Long hx hown (mvT hZ (hw _ (List.mem_of_getElem? (i := 0) rfl))) (g := (mkF m 0 #[.val (.long q), .second, .unset, .unset, .unset, .unset, .unset, .unset, .unset] [])) rfl (hb hby at_0) tq' kq') ?_
  show OwnGo _ _ _ _ (s₁.setTop (mkF m 3 #[.val (.long q), .second, .unset, .unset, .unset, .unset, .unset, .unset, .unset] [(.long (-7046029254386353131 : Int64))]))
  refine OwnGo.fwd (fun tq' kq' => XS.lstoreN X0.here hx rfl (hb hby at_3) rfl (l' := #[.val (.long q), .second, .val (.long (-7046029254386353131 : Int64)), .second, .unset, .unset, .unset, .unset, .unset]) rfl kq') ?_
  show OwnGo _ _ _ _ (s₁.setTop (mkF m 4 #[.val (.long q), .second, .val (.long (-7046029254386353131 : Int64)), .second, .unset, .unset, .unset, .unset, .unset] []))
  obtain ⟨T1, h1, X1, e1, E1, A1, D1, -, st1⟩ := newO X0 hx hZ hown (hw _ (List.mem_of_getElem? (i := 1) rfl)) (hw _ (List.mem_of_getElem? (i := 2) rfl)) (hw _ (List.mem_of_getElem? (i := 3) rfl)) e0 (g := (mkF m 4 #[.val (.long q), .second, .val (.long (-7046029254386353131 : Int64)), .second, .unset, .unset, .unset, .unset, .unset] [])) rfl (hb hby at_4) (by decide) (by decide)
  obtain ⟨b1, g1⟩ : ∃ z, z = h0.size := ⟨_, rfl⟩
  rw [← g1] at A1 D1 st1
  have g_b1 : n0 ≤ b1 := Nat.le_trans Zs (Nat.le_of_eq g1.symm)
  have Zs := Nat.le_trans Zs E1.1
  have E_b1 := A1
  have F_state_b1 : Fld Z h1 b1 "com/example/blindfold/blindfold/core/SeededRandom" "state" "J" (.long (0 : Int64)) := D1 (Or.inl (hw _ (List.mem_of_getElem? (i := 11) rfl))) (ty := .long) (by decide)
  refine OwnGo.fwd st1 ?_
  show OwnGo _ _ _ _ (T1.setTop (mkF m 7 #[.val (.long q), .second, .val (.long (-7046029254386353131 : Int64)), .second, .unset, .unset, .unset, .unset, .unset] [(.ref b1)]))
  refine OwnGo.fwd (fun tq' kq' => XS.dup X1.here hx rfl (hb hby at_7) rfl rfl kq') ?_
  show OwnGo _ _ _ _ (T1.setTop (mkF m 8 #[.val (.long q), .second, .val (.long (-7046029254386353131 : Int64)), .second, .unset, .unset, .unset, .unset, .unset] [(.ref b1), (.ref b1)]))
  refine OwnGo.fwd (fun tq' kq' => XS.lloadN X1.here hx rfl (hb hby at_8) rfl kq') ?_
  show OwnGo _ _ _ _ (T1.setTop (mkF m 9 #[.val (.long q), .second, .val (.long (-7046029254386353131 : Int64)), .second, .unset, .unset, .unset, .unset, .unset] [(.long q), (.ref b1), (.ref b1)]))
  obtain ⟨_, _, ⟨T2, L2, k2, n2⟩, -, X2, ⟨Lc2, hQ2, l2, y2, z2⟩, st2⟩ := X1.specialBack hx (y := (⟨"com/example/blindfold/blindfold/core/SeededRandom", "<init>", "(J)V"⟩ : MethodName)) rfl hown (mvT hZ (hw _ (List.mem_of_getElem? (i := 4) rfl))) (mvT hZ (hw _ (List.mem_of_getElem? (i := 5) rfl))) (mvT hZ (hw _ (List.mem_of_getElem? (i := 6) rfl))) (by decide) (backOf (W := 1) (rm1 l Z a0 hw [] b1 q h1 n0 Zs E_b1 F_state_b1 g_b1) hZ (hw _ (List.mem_of_getElem? (i := 6) rfl)) (hw _ (List.mem_of_getElem? (i := 3) rfl)) (by decide) (by decide)) (g := (mkF m 9 #[.val (.long q), .second, .val (.long (-7046029254386353131 : Int64)), .second, .unset, .unset, .unset, .unset, .unset] [(.long q), (.ref b1), (.ref b1)])) rfl (by rw [hml]; rfl) (Steps.refl _) (a := b1) (argsL := [(.long q)]) (rest := [(.ref b1)]) (lenOf pd_0 rfl) rfl (by show 2 * 0 + _ ≤ _; exact Nat.le_of_eq rfl) (hb hby at_9) (fun _ _ => ⟨rfl, e1, (by decide : 1 + 0 ≤ _), (by decide : 1 + 0 ≤ _)⟩)
  dsimp only [Pt.U, Pt.locs, Pt.cells, Pt.slots] at X2 l2 y2 z2 st2 hQ2
  subst l2 y2 z2
  obtain ⟨h2, eh2⟩ : ∃ z, z = T2.heap := ⟨_, rfl⟩
  rw [← eh2] at hQ2
  obtain ⟨rfl, N2q, K2, E_b1, F_state_b1⟩ := hQ2
  have N := Fr.app N N2q
  have Zs := Nat.le_trans Zs K2.1
  refine OwnGo.thru st2 ?_
  show OwnGo _ _ _ _ (T2.setTop (mkF m 12 #[.val (.long q), .second, .val (.long (-7046029254386353131 : Int64)), .second, .unset, .unset, .unset, .unset, .unset] [(.ref b1)]))
  refine OwnGo.fwd (fun tq' kq' => XS.astore X2.here hx rfl (hb hby at_12) rfl rfl (l' := #[.val (.long q), .second, .val (.long (-7046029254386353131 : Int64)), .second, .val (.ref b1), .unset, .unset, .unset, .unset]) rfl kq') ?_
  show OwnGo _ _ _ _ (T2.setTop (mkF m 14 #[.val (.long q), .second, .val (.long (-7046029254386353131 : Int64)), .second, .val (.ref b1), .unset, .unset, .unset, .unset] []))
  refine OwnGo.fwd (fun tq' kq' => XS.aload X2.here hx rfl (hb hby at_14) rfl rfl kq') ?_
  show OwnGo _ _ _ _ (T2.setTop (mkF m 16 #[.val (.long q), .second, .val (.long (-7046029254386353131 : Int64)), .second, .val (.ref b1), .unset, .unset, .unset, .unset] [(.ref b1)]))
  obtain ⟨cq3, kq3, q3a, q3b, q3c⟩ := isOf hZ eh2.symm E_b1
  obtain ⟨_, _, ⟨T3, L3, k3, n3⟩, -, X3, ⟨Lc3, hQ3, l3, y3, z3⟩, st3⟩ := X2.virtualBack hx (y := (⟨"com/example/blindfold/blindfold/core/SeededRandom", "nextLong", "()J"⟩ : MethodName)) (z := (⟨"com/example/blindfold/blindfold/core/SeededRandom", "nextLong", "()J"⟩ : MethodName)) hown (mvT hZ (hw _ (List.mem_of_getElem? (i := 12) rfl))) (mvT hZ (hw _ (List.mem_of_getElem? (i := 13) rfl))) (notFace_of_selects (args := #[]) (mvT hZ (hw _ (List.mem_of_getElem? (i := 15) rfl)))) (mvT hZ (hw _ (List.mem_of_getElem? (i := 15) rfl))) (mvT hZ (hw _ (List.mem_of_getElem? (i := 14) rfl))) (by decide) (backOf (W := 0) (rm3 l Z a0 hw [] b1 q h2 n0 Zs E_b1 F_state_b1 g_b1) hZ (hw _ (List.mem_of_getElem? (i := 16) rfl)) (hw _ (List.mem_of_getElem? (i := 3) rfl)) (by decide) (by decide)) q3a q3c (g := (mkF m 16 #[.val (.long q), .second, .val (.long (-7046029254386353131 : Int64)), .second, .val (.ref b1), .unset, .unset, .unset, .unset] [(.ref b1)])) rfl (by rw [hml]; rfl) (Steps.refl _) (argsL := []) (rest := []) (lenOf pd_1 rfl) rfl (by show 2 * 0 + _ ≤ _; exact Nat.le_of_eq rfl) (hb hby at_16) (fun _ _ => ⟨rfl, eh2.symm, (by decide : 1 + 0 ≤ _), (by decide : 1 + 0 ≤ _)⟩)
  dsimp only [Pt.U, Pt.locs, Pt.cells, Pt.slots] at X3 l3 y3 z3 st3 hQ3
  subst l3 y3 z3
  obtain ⟨h3, eh3⟩ : ∃ z, z = T3.heap := ⟨_, rfl⟩
  rw [← eh3] at hQ3
  obtain ⟨rfl, N3q, K3, E_b1, F_state_b1⟩ := hQ3
  have N := Fr.app N N3q
  have Zs := Nat.le_trans Zs K3.1
  refine OwnGo.thru st3 ?_
  show OwnGo _ _ _ _ (T3.setTop (mkF m 19 #[.val (.long q), .second, .val (.long (-7046029254386353131 : Int64)), .second, .val (.ref b1), .unset, .unset, .unset, .unset] [(.long (own_mix (q + (-7046029254386353131 : Int64))))]))
  refine OwnGo.fwd (fun tq' kq' => XS.lstore X3.here hx rfl (hb hby at_19) rfl (l' := #[.val (.long q), .second, .val (.long (-7046029254386353131 : Int64)), .second, .val (.ref b1), .val (.long (own_mix (q + (-7046029254386353131 : Int64)))), .second, .unset, .unset]) rfl kq') ?_
  show OwnGo _ _ _ _ (T3.setTop (mkF m 21 #[.val (.long q), .second, .val (.long (-7046029254386353131 : Int64)), .second, .val (.ref b1), .val (.long (own_mix (q + (-7046029254386353131 : Int64)))), .second, .unset, .unset] []))
  refine OwnGo.fwd (fun tq' kq' => XS.aload X3.here hx rfl (hb hby at_21) rfl rfl kq') ?_
  show OwnGo _ _ _ _ (T3.setTop (mkF m 23 #[.val (.long q), .second, .val (.long (-7046029254386353131 : Int64)), .second, .val (.ref b1), .val (.long (own_mix (q + (-7046029254386353131 : Int64)))), .second, .unset, .unset] [(.ref b1)]))
  obtain ⟨cq4, kq4, q4a, q4b, q4c⟩ := isOf hZ eh3.symm E_b1
  obtain ⟨_, _, ⟨T4, L4, k4, n4⟩, -, X4, ⟨Lc4, hQ4, l4, y4, z4⟩, st4⟩ := X3.virtualBack hx (y := (⟨"com/example/blindfold/blindfold/core/SeededRandom", "nextLong", "()J"⟩ : MethodName)) (z := (⟨"com/example/blindfold/blindfold/core/SeededRandom", "nextLong", "()J"⟩ : MethodName)) hown (mvT hZ (hw _ (List.mem_of_getElem? (i := 12) rfl))) (mvT hZ (hw _ (List.mem_of_getElem? (i := 13) rfl))) (notFace_of_selects (args := #[]) (mvT hZ (hw _ (List.mem_of_getElem? (i := 15) rfl)))) (mvT hZ (hw _ (List.mem_of_getElem? (i := 15) rfl))) (mvT hZ (hw _ (List.mem_of_getElem? (i := 14) rfl))) (by decide) (backOf (W := 0) (rm3 l Z a0 hw [] b1 (q + (-7046029254386353131 : Int64)) h3 n0 Zs E_b1 F_state_b1 g_b1) hZ (hw _ (List.mem_of_getElem? (i := 16) rfl)) (hw _ (List.mem_of_getElem? (i := 3) rfl)) (by decide) (by decide)) q4a q4c (g := (mkF m 23 #[.val (.long q), .second, .val (.long (-7046029254386353131 : Int64)), .second, .val (.ref b1), .val (.long (own_mix (q + (-7046029254386353131 : Int64)))), .second, .unset, .unset] [(.ref b1)])) rfl (by rw [hml]; rfl) (Steps.refl _) (argsL := []) (rest := []) (lenOf pd_1 rfl) rfl (by show 2 * 0 + _ ≤ _; exact Nat.le_of_eq rfl) (hb hby at_23) (fun _ _ => ⟨rfl, eh3.symm, (by decide : 1 + 0 ≤ _), (by decide : 1 + 0 ≤ _)⟩)
  dsimp only [Pt.U, Pt.locs, Pt.cells, Pt.slots] at X4 l4 y4 z4 st4 hQ4
  subst l4 y4 z4
  obtain ⟨h4, eh4⟩ : ∃ z, z = T4.heap := ⟨_, rfl⟩
  rw [← eh4] at hQ4
  obtain ⟨rfl, N4q, K4, E_b1, F_state_b1⟩ := hQ4
  have N := Fr.app N N4q
  have Zs := Nat.le_trans Zs K4.1
  refine OwnGo.thru st4 ?_
  show OwnGo _ _ _ _ (T4.setTop (mkF m 26 #[.val (.long q), .second, .val (.long (-7046029254386353131 : Int64)), .second, .val (.ref b1), .val (.long (own_mix (q + (-7046029254386353131 : Int64)))), .second, .unset, .unset] [(.long (own_mix ((q + (-7046029254386353131 : Int64)) + (-7046029254386353131 : Int64))))]))
  refine OwnGo.fwd (fun tq' kq' => XS.lstore X4.here hx rfl (hb hby at_26) rfl (l' := #[.val (.long q), .second, .val (.long (-7046029254386353131 : Int64)), .second, .val (.ref b1), .val (.long (own_mix (q + (-7046029254386353131 : Int64)))), .second, .val (.long (own_mix ((q + (-7046029254386353131 : Int64)) + (-7046029254386353131 : Int64)))), .second]) rfl kq') ?_
  show OwnGo _ _ _ _ (T4.setTop (mkF m 28 #[.val (.long q), .second, .val (.long (-7046029254386353131 : Int64)), .second, .val (.ref b1), .val (.long (own_mix (q + (-7046029254386353131 : Int64)))), .second, .val (.long (own_mix ((q + (-7046029254386353131 : Int64)) + (-7046029254386353131 : Int64)))), .second] []))
  refine OwnGo.fwd (fun tq' kq' => XS.lload X4.here hx rfl (hb hby at_28) rfl kq') ?_
  show OwnGo _ _ _ _ (T4.setTop (mkF m 30 #[.val (.long q), .second, .val (.long (-7046029254386353131 : Int64)), .second, .val (.ref b1), .val (.long (own_mix (q + (-7046029254386353131 : Int64)))), .second, .val (.long (own_mix ((q + (-7046029254386353131 : Int64)) + (-7046029254386353131 : Int64)))), .second] [(.long (own_mix (q + (-7046029254386353131 : Int64))))]))
  obtain ⟨_, _, ⟨T5, L5, k5, n5⟩, -, X5, ⟨Lc5, hQ5, l5, y5, z5⟩, st5⟩ := Jvm.LawKit.callS X4 hx (y := (⟨"com/example/blindfold/blindfold/core/SeededRandomNextLongPinLaw", "unmix", "(J)J"⟩ : MethodName)) hown (mvT hZ (hw _ (List.mem_of_getElem? (i := 20) rfl))) (mvT hZ (hw _ (List.mem_of_getElem? (i := 21) rfl))) (mvT hZ (hw _ (List.mem_of_getElem? (i := 22) rfl))) (mvT hZ (hw _ (List.mem_of_getElem? (i := 23) rfl))) (by decide) (backOf (W := 0) (rm4 l Z a0 hw [] (own_mix (q + (-7046029254386353131 : Int64))) h4 n0 Zs) hZ (hw _ (List.mem_of_getElem? (i := 23) rfl)) (hw _ (List.mem_of_getElem? (i := 22) rfl)) (by decide) (by decide)) (g := (mkF m 30 #[.val (.long q), .second, .val (.long (-7046029254386353131 : Int64)), .second, .val (.ref b1), .val (.long (own_mix (q + (-7046029254386353131 : Int64)))), .second, .val (.long (own_mix ((q + (-7046029254386353131 : Int64)) + (-7046029254386353131 : Int64)))), .second] [(.long (own_mix (q + (-7046029254386353131 : Int64))))])) rfl (by rw [hml]; rfl) (argsL := [(.long (own_mix (q + (-7046029254386353131 : Int64))))]) (rest := []) (lenOf pd_2 rfl) rfl (by show 2 * 0 + _ ≤ _; exact Nat.le_of_eq rfl) (hb hby at_30) (fun _ _ => ⟨rfl, eh4.symm, (by decide : 1 + 0 ≤ _), (by decide : 1 + 0 ≤ _)⟩)
  dsimp only [Pt.U, Pt.locs, Pt.cells, Pt.slots] at X5 l5 y5 z5 st5 hQ5
  subst l5 y5 z5
  obtain ⟨rfl, N5q, e5⟩ := hQ5
  have N := Fr.app N N5q
  refine OwnGo.fwd st5 ?_
  show OwnGo _ _ _ _ (T5.setTop (mkF m 33 #[.val (.long q), .second, .val (.long (-7046029254386353131 : Int64)), .second, .val (.ref b1), .val (.long (own_mix (q + (-7046029254386353131 : Int64)))), .second, .val (.long (own_mix ((q + (-7046029254386353131 : Int64)) + (-7046029254386353131 : Int64)))), .second] [(.long (own_unmix (own_mix (q + (-7046029254386353131 : Int64)))))]))
  refine OwnGo.fwd (fun tq' kq' => XS.lloadN X5.here hx rfl (hb hby at_33) rfl kq') ?_
  show OwnGo _ _ _ _ (T5.setTop (mkF m 34 #[.val (.long q), .second, .val (.long (-7046029254386353131 : Int64)), .second, .val (.ref b1), .val (.long (own_mix (q + (-7046029254386353131 : Int64)))), .second, .val (.long (own_mix ((q + (-7046029254386353131 : Int64)) + (-7046029254386353131 : Int64)))), .second] [(.long q), (.long (own_unmix (own_mix (q + (-7046029254386353131 : Int64)))))]))
  refine OwnGo.fwd (fun tq' kq' => XS.lloadN X5.here hx rfl (hb hby at_34) rfl kq') ?_
  show OwnGo _ _ _ _ (T5.setTop (mkF m 35 #[.val (.long q), .second, .val (.long (-7046029254386353131 : Int64)), .second, .val (.ref b1), .val (.long (own_mix (q + (-7046029254386353131 : Int64)))), .second, .val (.long (own_mix ((q + (-7046029254386353131 : Int64)) + (-7046029254386353131 : Int64)))), .second] [(.long (-7046029254386353131 : Int64)), (.long q), (.long (own_unmix (own_mix (q + (-7046029254386353131 : Int64)))))]))
  refine OwnGo.fwd (fun tq' kq' => XS.ladd X5.here hx rfl (hb hby at_35) rfl kq') ?_
  show OwnGo _ _ _ _ (T5.setTop (mkF m 36 #[.val (.long q), .second, .val (.long (-7046029254386353131 : Int64)), .second, .val (.ref b1), .val (.long (own_mix (q + (-7046029254386353131 : Int64)))), .second, .val (.long (own_mix ((q + (-7046029254386353131 : Int64)) + (-7046029254386353131 : Int64)))), .second] [(.long (q + (-7046029254386353131 : Int64))), (.long (own_unmix (own_mix (q + (-7046029254386353131 : Int64)))))]))
  refine OwnGo.fwd (fun tq' kq' => XS.lcmp X5.here hx rfl (hb hby at_36) rfl kq') ?_
  show OwnGo _ _ _ _ (T5.setTop (mkF m 37 #[.val (.long q), .second, .val (.long (-7046029254386353131 : Int64)), .second, .val (.ref b1), .val (.long (own_mix (q + (-7046029254386353131 : Int64)))), .second, .val (.long (own_mix ((q + (-7046029254386353131 : Int64)) + (-7046029254386353131 : Int64)))), .second] [(.int (lcmpW (own_unmix (own_mix (q + (-7046029254386353131 : Int64)))) (q + (-7046029254386353131 : Int64))))]))
  have hc37_6 : (own_unmix (own_mix (q + (-7046029254386353131 : Int64)))).toInt = (q + (-7046029254386353131 : Int64)).toInt := congrArg Int64.toInt (own_um _)
  refine OwnGo.fwd (fun tq' kq' => XS.ifNo X5.here hx rfl (hb hby at_37) rfl (own_Leq rfl rfl hc37_6).2 kq') ?_
  show OwnGo _ _ _ _ (T5.setTop (mkF m 40 #[.val (.long q), .second, .val (.long (-7046029254386353131 : Int64)), .second, .val (.ref b1), .val (.long (own_mix (q + (-7046029254386353131 : Int64)))), .second, .val (.long (own_mix ((q + (-7046029254386353131 : Int64)) + (-7046029254386353131 : Int64)))), .second] []))
  refine OwnGo.fwd (fun tq' kq' => XS.lload X5.here hx rfl (hb hby at_40) rfl kq') ?_
  show OwnGo _ _ _ _ (T5.setTop (mkF m 42 #[.val (.long q), .second, .val (.long (-7046029254386353131 : Int64)), .second, .val (.ref b1), .val (.long (own_mix (q + (-7046029254386353131 : Int64)))), .second, .val (.long (own_mix ((q + (-7046029254386353131 : Int64)) + (-7046029254386353131 : Int64)))), .second] [(.long (own_mix ((q + (-7046029254386353131 : Int64)) + (-7046029254386353131 : Int64))))]))
  obtain ⟨_, _, ⟨T7, L7, k7, n7⟩, -, X7, ⟨Lc7, hQ7, l7, y7, z7⟩, st7⟩ := Jvm.LawKit.callS X5 hx (y := (⟨"com/example/blindfold/blindfold/core/SeededRandomNextLongPinLaw", "unmix", "(J)J"⟩ : MethodName)) hown (mvT hZ (hw _ (List.mem_of_getElem? (i := 20) rfl))) (mvT hZ (hw _ (List.mem_of_getElem? (i := 21) rfl))) (mvT hZ (hw _ (List.mem_of_getElem? (i := 22) rfl))) (mvT hZ (hw _ (List.mem_of_getElem? (i := 23) rfl))) (by decide) (backOf (W := 0) (rm4 l Z a0 hw [] (own_mix ((q + (-7046029254386353131 : Int64)) + (-7046029254386353131 : Int64))) h4 n0 Zs) hZ (hw _ (List.mem_of_getElem? (i := 23) rfl)) (hw _ (List.mem_of_getElem? (i := 22) rfl)) (by decide) (by decide)) (g := (mkF m 42 #[.val (.long q), .second, .val (.long (-7046029254386353131 : Int64)), .second, .val (.ref b1), .val (.long (own_mix (q + (-7046029254386353131 : Int64)))), .second, .val (.long (own_mix ((q + (-7046029254386353131 : Int64)) + (-7046029254386353131 : Int64)))), .second] [(.long (own_mix ((q + (-7046029254386353131 : Int64)) + (-7046029254386353131 : Int64))))])) rfl (by rw [hml]; rfl) (argsL := [(.long (own_mix ((q + (-7046029254386353131 : Int64)) + (-7046029254386353131 : Int64))))]) (rest := []) (lenOf pd_2 rfl) rfl (by show 2 * 0 + _ ≤ _; exact Nat.le_of_eq rfl) (hb hby at_42) (fun _ _ => ⟨rfl, e5, (by decide : 1 + 0 ≤ _), (by decide : 1 + 0 ≤ _)⟩)
  dsimp only [Pt.U, Pt.locs, Pt.cells, Pt.slots] at X7 l7 y7 z7 st7 hQ7
  subst l7 y7 z7
  obtain ⟨rfl, N7q, e7⟩ := hQ7
  have N := Fr.app N N7q
  refine OwnGo.fwd st7 ?_
  show OwnGo _ _ _ _ (T7.setTop (mkF m 45 #[.val (.long q), .second, .val (.long (-7046029254386353131 : Int64)), .second, .val (.ref b1), .val (.long (own_mix (q + (-7046029254386353131 : Int64)))), .second, .val (.long (own_mix ((q + (-7046029254386353131 : Int64)) + (-7046029254386353131 : Int64)))), .second] [(.long (own_unmix (own_mix ((q + (-7046029254386353131 : Int64)) + (-7046029254386353131 : Int64)))))]))
  refine OwnGo.fwd (fun tq' kq' => XS.lloadN X7.here hx rfl (hb hby at_45) rfl kq') ?_
  show OwnGo _ _ _ _ (T7.setTop (mkF m 46 #[.val (.long q), .second, .val (.long (-7046029254386353131 : Int64)), .second, .val (.ref b1), .val (.long (own_mix (q + (-7046029254386353131 : Int64)))), .second, .val (.long (own_mix ((q + (-7046029254386353131 : Int64)) + (-7046029254386353131 : Int64)))), .second] [(.long q), (.long (own_unmix (own_mix ((q + (-7046029254386353131 : Int64)) + (-7046029254386353131 : Int64)))))]))
  refine OwnGo.fwd (fun tq' kq' => XS.lloadN X7.here hx rfl (hb hby at_46) rfl kq') ?_
  show OwnGo _ _ _ _ (T7.setTop (mkF m 47 #[.val (.long q), .second, .val (.long (-7046029254386353131 : Int64)), .second, .val (.ref b1), .val (.long (own_mix (q + (-7046029254386353131 : Int64)))), .second, .val (.long (own_mix ((q + (-7046029254386353131 : Int64)) + (-7046029254386353131 : Int64)))), .second] [(.long (-7046029254386353131 : Int64)), (.long q), (.long (own_unmix (own_mix ((q + (-7046029254386353131 : Int64)) + (-7046029254386353131 : Int64)))))]))
  refine OwnGo.fwd (fun tq' kq' => XS.ladd X7.here hx rfl (hb hby at_47) rfl kq') ?_
  show OwnGo _ _ _ _ (T7.setTop (mkF m 48 #[.val (.long q), .second, .val (.long (-7046029254386353131 : Int64)), .second, .val (.ref b1), .val (.long (own_mix (q + (-7046029254386353131 : Int64)))), .second, .val (.long (own_mix ((q + (-7046029254386353131 : Int64)) + (-7046029254386353131 : Int64)))), .second] [(.long (q + (-7046029254386353131 : Int64))), (.long (own_unmix (own_mix ((q + (-7046029254386353131 : Int64)) + (-7046029254386353131 : Int64)))))]))
  refine OwnGo.fwd (fun tq' kq' => XS.lloadN X7.here hx rfl (hb hby at_48) rfl kq') ?_
  show OwnGo _ _ _ _ (T7.setTop (mkF m 49 #[.val (.long q), .second, .val (.long (-7046029254386353131 : Int64)), .second, .val (.ref b1), .val (.long (own_mix (q + (-7046029254386353131 : Int64)))), .second, .val (.long (own_mix ((q + (-7046029254386353131 : Int64)) + (-7046029254386353131 : Int64)))), .second] [(.long (-7046029254386353131 : Int64)), (.long (q + (-7046029254386353131 : Int64))), (.long (own_unmix (own_mix ((q + (-7046029254386353131 : Int64)) + (-7046029254386353131 : Int64)))))]))
  refine OwnGo.fwd (fun tq' kq' => XS.ladd X7.here hx rfl (hb hby at_49) rfl kq') ?_
  show OwnGo _ _ _ _ (T7.setTop (mkF m 50 #[.val (.long q), .second, .val (.long (-7046029254386353131 : Int64)), .second, .val (.ref b1), .val (.long (own_mix (q + (-7046029254386353131 : Int64)))), .second, .val (.long (own_mix ((q + (-7046029254386353131 : Int64)) + (-7046029254386353131 : Int64)))), .second] [(.long ((q + (-7046029254386353131 : Int64)) + (-7046029254386353131 : Int64))), (.long (own_unmix (own_mix ((q + (-7046029254386353131 : Int64)) + (-7046029254386353131 : Int64)))))]))
  refine OwnGo.fwd (fun tq' kq' => XS.lcmp X7.here hx rfl (hb hby at_50) rfl kq') ?_
  show OwnGo _ _ _ _ (T7.setTop (mkF m 51 #[.val (.long q), .second, .val (.long (-7046029254386353131 : Int64)), .second, .val (.ref b1), .val (.long (own_mix (q + (-7046029254386353131 : Int64)))), .second, .val (.long (own_mix ((q + (-7046029254386353131 : Int64)) + (-7046029254386353131 : Int64)))), .second] [(.int (lcmpW (own_unmix (own_mix ((q + (-7046029254386353131 : Int64)) + (-7046029254386353131 : Int64)))) ((q + (-7046029254386353131 : Int64)) + (-7046029254386353131 : Int64))))]))
  have hc51_8 : (own_unmix (own_mix ((q + (-7046029254386353131 : Int64)) + (-7046029254386353131 : Int64)))).toInt = ((q + (-7046029254386353131 : Int64)) + (-7046029254386353131 : Int64)).toInt := congrArg Int64.toInt (own_um _)
  refine OwnGo.fwd (fun tq' kq' => XS.ifNo X7.here hx rfl (hb hby at_51) rfl (own_Leq rfl rfl hc51_8).2 kq') ?_
  show OwnGo _ _ _ _ (T7.setTop (mkF m 54 #[.val (.long q), .second, .val (.long (-7046029254386353131 : Int64)), .second, .val (.ref b1), .val (.long (own_mix (q + (-7046029254386353131 : Int64)))), .second, .val (.long (own_mix ((q + (-7046029254386353131 : Int64)) + (-7046029254386353131 : Int64)))), .second] []))
  refine OwnGo.fwd (fun tq' kq' => XS.iconst X7.here hx rfl (hb hby at_54) kq') ?_
  show OwnGo _ _ _ _ (T7.setTop (mkF m 55 #[.val (.long q), .second, .val (.long (-7046029254386353131 : Int64)), .second, .val (.ref b1), .val (.long (own_mix (q + (-7046029254386353131 : Int64)))), .second, .val (.long (own_mix ((q + (-7046029254386353131 : Int64)) + (-7046029254386353131 : Int64)))), .second] [(.int (1 : Int32))]))
  refine OwnGo.fwd (fun tq' kq' => XS.goto X7.here hx rfl (pc0 := 55) (pc' := 59) rfl (hb hby at_55) (by decide) (by decide) kq') ?_
  show OwnGo _ _ _ _ (T7.setTop (mkF m 59 #[.val (.long q), .second, .val (.long (-7046029254386353131 : Int64)), .second, .val (.ref b1), .val (.long (own_mix (q + (-7046029254386353131 : Int64)))), .second, .val (.long (own_mix ((q + (-7046029254386353131 : Int64)) + (-7046029254386353131 : Int64)))), .second] [(.int (1 : Int32))]))
  exact own_retZ X7 hlk hx Bd.returns (hb hby at_59) (by decide) (by decide) e7 ⟨rfl, N⟩
set_option maxRecDepth 65536 in
set_option maxHeartbeats 40000000 in
theorem comes_1 {Post : Tables → Env → Array Value → State → Outcome → State → Prop} (hpost : ∀ tb e args s v u, (limb_1_1.after args s (.returned v) u = true ∧ limb_1_2.after args s (.returned v) u = true ∧ True) → FrameEnd s (.returned v) u (Jvm.fieldLocs frame_1_writes args s ++ Jvm.arrayLocs frame_1_arrays args s ++ Jvm.staticLocs frame_1_statics s) 16 128 → Post tb e args s (.returned v) u) :
    ArmFor flags0 classFile x code maxLocals ret World_1 tables_1 room_1 Calls_1 rest_1 Pre_1 Post := by
  intro l hfl _ _ p e ha hc hk s m args below hf hA hF happ hP
  obtain ⟨hcalls, hrest, hpre⟩ := hP
  obtain ⟨-, -, -, hnamed, -, -, -, hat⟩ := (Spec.applies_iff hf).mp happ
  obtain ⟨hg, hn⟩ := and_e (Cond.before_iff.mp (show (Jvm.Cond.and given_1 narrow_1).before args s = true from hpre))
  obtain ⟨gc, gr0⟩ := and_e hg
  obtain ⟨w0, rfl⟩ : ∃ w0 : Value, args = #[w0] := by
    have hs : args.size = 1 := by simpa [Cond.value, given_1] using gc
    obtain ⟨L⟩ := args
    match L, hs with
    | [w0], _ => exact ⟨w0, rfl⟩
  have hw := fun d (hd : d ∈ tables_1) => atoms_spec (ws := Jvm.Cond.code x code maxLocals ret :: tables_1) hat d (List.mem_cons_of_mem _ hd)
  have hfit : Fit s := fun {y c} hc i hi => by
    obtain ⟨ha, rfl⟩ := Array.getElem?_eq_some_iff.mp hc
    have q := List.all_eq_true.mp ((Array.all_eq_true_iff_forall_mem.mp hF) _ (Array.getElem_mem ha)) i (List.mem_range.mpr hi)
    simpa [Array.getElem?_eq_getElem hi] using q
  obtain ⟨i0, ei0⟩ := isL_v gr0
  obtain rfl : w0 = (.long i0) := Option.some.inj ei0
  obtain ⟨n, o, h1, h2, h3, _, L, rfl, ⟨rfl, N⟩, hq⟩ := rm0 l s _ hw tables_1 i0 s.heap s.heap.size (Nat.le_refl _) p e ha hc hk s m _ below hf ((Spec.applies_iff_loose hf).mp happ).1 ⟨rfl, State.Warmed39.refl s, rfl⟩ trivial
  refine ⟨n, _, h1, h2, h3, hpost _ _ _ _ _ _ ⟨Cond.after_iff.mpr rfl, Cond.after_iff.mpr (eq_i res_at (Term.int_eval (1)) rfl), trivial⟩ ⟨hq.1, hq.2.1, (hq.2.2.sift fun y hy => Or.inr (N y hy)).mono (by decide) (by decide)⟩⟩
theorem main_1_1 : Claimed_1_1 := comes_1 fun _ _ _ _ _ _ h hF => ⟨h.1, hF⟩
theorem main_1_2 : Claimed_1_2 := comes_1 fun _ _ _ _ _ _ h hF => ⟨h.2.1, hF⟩
end Jvm.Pilot.@@N@@
namespace Jvm.Pilot.@@N@@
open Jvm Jvm.ClassFile Sem Op Lib Jvm.Free Jvm.Stand Jvm.Pilot.@@N@@.Jvm.D
/-! MADE BY PROGRAM (witnessworld.py) out of the Statement's table words and the real class files: 9 classes; the members and pool entries that the words name. The judged class is class 1, her method 3. -/
namespace start1
open Jvm.ClassFile
def u (s : String) : CpInfo := .utf8 (stringToUtf16 s)
/-- a pool by its gaps: so many unusable entries, then the entry; so many at the end -/
def gap : Nat → List CpInfo → List CpInfo
  | 0, r => r
  | n + 1, r => .unusable :: gap n r
def poolList (es : List (Nat × CpInfo)) (last : Nat) : List CpInfo := es.foldr (fun e r => gap e.1 (e.2 :: r)) (gap last [])
def pool (es : List (Nat × CpInfo)) (last : Nat) : Array CpInfo := ⟨poolList es last⟩
def fileOf (pool : Array CpInfo) (this : Nat) (attrs : Array Attribute := #[]) (ms : Array MethodInfo := #[]) (fl : Nat := 33) (sup : Nat := 0) (ifs : Array Nat := #[]) (fds : Array FieldInfo := #[]) : ClassFile where
  minorVersion := 0
  majorVersion := 65
  constantPool := pool
  accessFlags := fl
  thisClass := this
  superClass := sup
  interfaces := ifs
  fields := fds
  methods := ms
  attributes := attrs
def plain (name : String) (sup : Option ClassId) : Class where
  name := name
  kind := .ordinary
  loader := none
  accessFlags := 33
  super := sup
  interfaces := #[]
  cf := none
  fields := #[]
  methods := #[]
  instanceTypes := #[]
  staticTypes := #[]
  resolved := #[]
  callSites := []
  init := .initialized
  statics := none
  mirror := none

def pool0 : Array CpInfo := pool [(5, u "<init>"), (0, u "()V"), (1, .class_ 10), (1, u "java/lang/Object")] 113

def k0c0 : Code := { maxStack := 0, maxLocals := 1, code := object_method_1_code, exceptionTable := #[], attributes := #[] }
def k0m0 : Method := { name := "<init>", desc := "()V", sig := { parameters := [], returnType := none }, accessFlags := 1, code := some k0c0 }
/-- java/lang/Object -/
def k0 : Class := { plain "java/lang/Object" none with
  accessFlags := 33
  interfaces := #[]
  cf := some (fileOf pool0 8 #[] #[{ accessFlags := 1, nameIndex := 5, descriptorIndex := 6, attributes := #[] }] 33 0 #[] #[])
  fields := #[]
  methods := #[k0m0]
  instanceTypes := #[]
  staticTypes := #[]
  resolved := Array.replicate 124 none
  statics := none }

def pool1 : Array CpInfo := pool [(2, .class_ 4), (1, u "java/lang/Object"), (0, u "<init>"), (0, u "()V"), (0, .long 2), (1, .long 10723151780598845931), (1, .methodref 12 13), (0, .class_ 14), (0, .nameAndType 15 16), (0, u "com/example/blindfold/blindfold/core/SeededRandomNextLongPinLaw"), (0, u "inverse"), (0, u "(J)J"), (0, .long 13787848793156543929), (1, .long 11400714819323198485), (1, .class_ 22), (0, u "com/example/blindfold/blindfold/core/SeededRandom"), (0, .methodref 21 24), (0, .nameAndType 5 25), (0, u "(J)V"), (0, .methodref 21 27), (0, .nameAndType 28 29), (0, u "nextLong"), (0, u "()J"), (0, .methodref 12 31), (0, .nameAndType 32 16), (0, u "unmix"), (2, u "law"), (0, u "(J)Z")] 3

def k1m0 : Method := { name := "<init>", desc := "()V", sig := { parameters := [], returnType := none }, accessFlags := 1, code := none }
def k1c1 : Code := { maxStack := 8, maxLocals := 4, code := method_2_code, exceptionTable := #[], attributes := #[] }
def k1m1 : Method := { name := "inverse", desc := "(J)J", sig := { parameters := [.long], returnType := some .long }, accessFlags := 10, code := some k1c1 }
def k1c2 : Code := { maxStack := 5, maxLocals := 4, code := method_3_code, exceptionTable := #[], attributes := #[] }
def k1m2 : Method := { name := "unmix", desc := "(J)J", sig := { parameters := [.long], returnType := some .long }, accessFlags := 10, code := some k1c2 }
def k1c3 : Code := { maxStack := 6, maxLocals := 9, code := code, exceptionTable := #[], attributes := #[] }
def k1m3 : Method := { name := "law", desc := "(J)Z", sig := { parameters := [.long], returnType := some .boolean }, accessFlags := 9, code := some k1c3 }
/-- com/example/blindfold/blindfold/core/SeededRandomNextLongPinLaw -/
def k1 : Class := { plain "com/example/blindfold/blindfold/core/SeededRandomNextLongPinLaw" (some 0) with
  accessFlags := 49
  interfaces := #[]
  cf := some (fileOf pool1 12 #[] #[{ accessFlags := 1, nameIndex := 5, descriptorIndex := 6, attributes := #[] }, { accessFlags := 10, nameIndex := 15, descriptorIndex := 16, attributes := #[] }, { accessFlags := 10, nameIndex := 32, descriptorIndex := 16, attributes := #[] }, { accessFlags := 9, nameIndex := 35, descriptorIndex := 36, attributes := #[] }] 49 2 #[] #[])
  fields := #[]
  methods := #[k1m0, k1m1, k1m2, k1m3]
  instanceTypes := #[]
  staticTypes := #[]
  resolved := Array.replicate 40 none
  statics := none }

def pool2 : Array CpInfo := pool [(1, .methodref 2 3), (0, .class_ 4), (0, .nameAndType 5 6), (0, u "java/lang/Object"), (0, u "<init>"), (0, u "()V"), (0, .fieldref 8 9), (0, .class_ 10), (0, .nameAndType 11 12), (0, u "com/example/blindfold/blindfold/core/SeededRandom"), (0, u "state"), (0, u "J"), (0, .long 11400714819323198485), (1, .long 13787848793156543929), (1, .long 10723151780598845931), (3, u "nextLong"), (0, u "()J"), (37, u "INCREMENT"), (1, u "UNIT"), (0, u "D"), (0, u "(J)V")] 27

def k2c0 : Code := { maxStack := 3, maxLocals := 3, code := prog_38_method_1_code, exceptionTable := #[], attributes := #[] }
def k2m0 : Method := { name := "<init>", desc := "(J)V", sig := { parameters := [.long], returnType := none }, accessFlags := 1, code := some k2c0 }
def k2c1 : Code := { maxStack := 5, maxLocals := 3, code := prog_38_method_2_code, exceptionTable := #[], attributes := #[] }
def k2m1 : Method := { name := "nextLong", desc := "()J", sig := { parameters := [], returnType := some .long }, accessFlags := 1, code := some k2c1 }
/-- com/example/blindfold/blindfold/core/SeededRandom -/
def k2 : Class := { plain "com/example/blindfold/blindfold/core/SeededRandom" (some 0) with
  accessFlags := 49
  interfaces := #[]
  cf := some (fileOf pool2 8 #[] #[{ accessFlags := 1, nameIndex := 5, descriptorIndex := 64, attributes := #[] }, { accessFlags := 1, nameIndex := 21, descriptorIndex := 22, attributes := #[] }] 49 2 #[] #[{ accessFlags := 26, nameIndex := 60, descriptorIndex := 12, attributes := #[] }, { accessFlags := 26, nameIndex := 62, descriptorIndex := 63, attributes := #[] }, { accessFlags := 2, nameIndex := 11, descriptorIndex := 12, attributes := #[] }])
  fields := #[{ name := "INCREMENT", type := .long, accessFlags := 26, slot := 0, constantValue := 0 }, { name := "UNIT", type := .double, accessFlags := 26, slot := 1, constantValue := 0 }, { name := "state", type := .long, accessFlags := 2, slot := 0, constantValue := 0 }]
  methods := #[k2m0, k2m1]
  instanceTypes := #[.long]
  staticTypes := #[.long, .double]
  resolved := Array.replicate 92 none
  statics := none }

def pool3 : Array CpInfo := pool [(1, u "java/lang/Cloneable"), (0, .class_ 1), (0, u "java/lang/Object"), (0, .class_ 3)] 3

/-- java/lang/Cloneable -/
def k3 : Class := { plain "java/lang/Cloneable" (some 0) with
  accessFlags := 1537
  interfaces := #[]
  cf := some (fileOf pool3 2 #[] #[] 1537 4 #[] #[])
  fields := #[]
  methods := #[]
  instanceTypes := #[]
  staticTypes := #[]
  resolved := Array.replicate 8 none
  statics := none }

def pool4 : Array CpInfo := pool [(1, u "java/io/Serializable"), (0, .class_ 1), (0, u "java/lang/Object"), (0, .class_ 3)] 3

/-- java/io/Serializable -/
def k4 : Class := { plain "java/io/Serializable" (some 0) with
  accessFlags := 1537
  interfaces := #[]
  cf := some (fileOf pool4 2 #[] #[] 1537 4 #[] #[])
  fields := #[]
  methods := #[]
  instanceTypes := #[]
  staticTypes := #[]
  resolved := Array.replicate 8 none
  statics := none }

/-- the primitive byte -/
def k5 : Class := { plain "byte" none with kind := .primitive 'B', accessFlags := 0x411 }
/-- [B -/
def k6 : Class := { plain "[B" (some 0) with kind := .array 5 .byte, interfaces := #[3, 4], accessFlags := 1041 }

/-- the primitive int -/
def k7 : Class := { plain "int" none with kind := .primitive 'I', accessFlags := 0x411 }
/-- [I -/
def k8 : Class := { plain "[I" (some 0) with kind := .array 7 .int, interfaces := #[3, 4], accessFlags := 1041 }

def heap : Heap := #[]
def classes : Array Class := #[k0, k1, k2, k3, k4, k5, k6, k7, k8]
def interned : List (Array UInt16 × Addr) := []
def slotsUsed : Nat := 0
def theMethod : MethodId := ⟨1, 3⟩
def args0 : Array Value := #[.long 12345]
def aboutOver (below : List Frame) : State where
  vm := { classes := classes, interned := interned.toArray }
  heap := heap
  slotsUsed := slotsUsed
  threads := #[{ frames := .invoking theMethod args0 :: below }]
def below0 : List Frame := [.native { method := ⟨0, 0⟩, args := #[] }]
def about1 : State := aboutOver below0
def p0 : Program := .bare "" "" ""
def e0 : Env := launch0.env 0 0 0
theorem w_frames : about1.frames = Frame.invoking theMethod args0 :: below0 := rfl
set_option maxRecDepth 65536 in
theorem w_args : argsFit about1.vm theMethod args0 = true := by decide +kernel
set_option maxRecDepth 65536 in
theorem w_heap : heapFits about1 = true := by decide +kernel
set_option maxRecDepth 65536 in
theorem w_runnable : about1.curStatus? = some .runnable := by decide +kernel
set_option maxRecDepth 65536 in
theorem w_alone : about1.alone = true := by decide +kernel
set_option maxRecDepth 65536 in
theorem w_named : about1.methodNamed? x = some theMethod := by decide +kernel
set_option maxRecDepth 65536 in
theorem w_hears : about1.hears theMethod below0 = true := by decide +kernel
set_option maxRecDepth 65536 in
theorem w_ripe : about1.ripe theMethod args0 below0 = true := by decide +kernel
theorem w_running : about1.status = .running := rfl
set_option maxRecDepth 65536 in
theorem w_room : about1.hasRoom e0.platform room_1 = true :=
  launch0.hasRoom_least _ room_1 (by decide +kernel) (by decide +kernel) (by decide +kernel) (by decide +kernel) (by decide +kernel) (by decide +kernel)
theorem allAtoms_all (ts : List Jvm.Cond) (a : Array Jvm.Value) (st : Jvm.State) : (allAtoms ts).before a st = ts.all (fun c => c.before a st) := by
  induction ts with
  | nil => rfl
  | cons c t ih =>
    show (Jvm.Cond.and c (allAtoms t)).before a st = _
    rw [Jvm.Cond.before_and, ih, List.all_cons]
def words1 : List Jvm.Cond := Jvm.Cond.code x code maxLocals ret :: tables_1
/-- a 'code' word, met by the world's own term for the bytes: nothing is compared byte by byte -/
theorem code_word {y : MethodName} {bytes : ByteArray} {mx : Nat} {rt : Option FieldType} {a : Array Value} {s : State} {m : MethodId} {meth : Method} {c : Code} (h1 : s.methodNamed? y = some m) (h2 : s.vm.method? m = some meth) (h3 : meth.code = some c) (h4 : c.code = bytes)
    (h5 : (c.maxLocals == mx && c.exceptionTable.isEmpty && decide (c.maxStack ≤ mostOperands) && decide (meth.sig.returnType = rt) && !meth.locks && decide (parseMethodDescriptor y.desc = some meth.sig)) = true) : (Jvm.Cond.code y bytes mx rt).before a s = true := by
  simp only [Bool.and_eq_true, beq_iff_eq, Bool.not_eq_true', decide_eq_true_eq] at h5
  obtain ⟨⟨⟨⟨⟨g1, g2⟩, g3⟩, g4⟩, g5⟩, g6⟩ := h5
  simp [Cond.before, Cond.holds, Cond.value, h1, h2, h3, h4, g1, g2, g3, g4, g5, g6]
def isCode : Jvm.Cond → Bool
  | .code _ _ _ _ => true
  | _ => false
theorem all_split {L : List Jvm.Cond} {P : Jvm.Cond → Bool} (h1 : L.all (fun c => isCode c || P c) = true) (h2 : ∀ c ∈ L.filter isCode, P c = true) : L.all P = true := by
  refine List.all_eq_true.mpr fun c hc => ?_
  have h := List.all_eq_true.mp h1 c hc
  rcases Bool.eq_false_or_eq_true (isCode c) with hi | hi
  · exact h2 c (List.mem_filter.mpr ⟨hc, hi⟩)
  · simpa [hi] using h
set_option maxRecDepth 65536 in
theorem w_c0 : (Jvm.Cond.code x code maxLocals ret).before args0 about1 = true := code_word (m := ⟨1, 3⟩) (meth := k1m3) (c := k1c3) (by decide +kernel) rfl rfl rfl (by decide +kernel)
set_option maxRecDepth 65536 in
theorem w_c1 : (Jvm.Cond.code ({ cls := "com/example/blindfold/blindfold/core/SeededRandom", name := "<init>", desc := "(J)V" } : Jvm.MethodName) prog_38_method_1_code (3 : Nat) (Option.none : Option Jvm.ClassFile.FieldType)).before args0 about1 = true := code_word (m := ⟨2, 0⟩) (meth := k2m0) (c := k2c0) (by decide +kernel) rfl rfl rfl (by decide +kernel)
set_option maxRecDepth 65536 in
theorem w_c2 : (Jvm.Cond.code ({ cls := "java/lang/Object", name := "<init>", desc := "()V" } : Jvm.MethodName) object_method_1_code (1 : Nat) (Option.none : Option Jvm.ClassFile.FieldType)).before args0 about1 = true := code_word (m := ⟨0, 0⟩) (meth := k0m0) (c := k0c0) (by decide +kernel) rfl rfl rfl (by decide +kernel)
set_option maxRecDepth 65536 in
theorem w_c3 : (Jvm.Cond.code ({ cls := "com/example/blindfold/blindfold/core/SeededRandom", name := "nextLong", desc := "()J" } : Jvm.MethodName) prog_38_method_2_code (3 : Nat) (Option.some Jvm.ClassFile.FieldType.long)).before args0 about1 = true := code_word (m := ⟨2, 1⟩) (meth := k2m1) (c := k2c1) (by decide +kernel) rfl rfl rfl (by decide +kernel)
set_option maxRecDepth 65536 in
theorem w_c4 : (Jvm.Cond.code ({ cls := "com/example/blindfold/blindfold/core/SeededRandomNextLongPinLaw", name := "unmix", desc := "(J)J" } : Jvm.MethodName) method_3_code (4 : Nat) (Option.some Jvm.ClassFile.FieldType.long)).before args0 about1 = true := code_word (m := ⟨1, 2⟩) (meth := k1m2) (c := k1c2) (by decide +kernel) rfl rfl rfl (by decide +kernel)
set_option maxRecDepth 65536 in
theorem w_c5 : (Jvm.Cond.code ({ cls := "com/example/blindfold/blindfold/core/SeededRandomNextLongPinLaw", name := "inverse", desc := "(J)J" } : Jvm.MethodName) method_2_code (4 : Nat) (Option.some Jvm.ClassFile.FieldType.long)).before args0 about1 = true := code_word (m := ⟨1, 1⟩) (meth := k1m1) (c := k1c1) (by decide +kernel) rfl rfl rfl (by decide +kernel)
def codes1 : List Jvm.Cond := [Jvm.Cond.code x code maxLocals ret, Jvm.Cond.code ({ cls := "com/example/blindfold/blindfold/core/SeededRandom", name := "<init>", desc := "(J)V" } : Jvm.MethodName) prog_38_method_1_code (3 : Nat) (Option.none : Option Jvm.ClassFile.FieldType), Jvm.Cond.code ({ cls := "java/lang/Object", name := "<init>", desc := "()V" } : Jvm.MethodName) object_method_1_code (1 : Nat) (Option.none : Option Jvm.ClassFile.FieldType), Jvm.Cond.code ({ cls := "com/example/blindfold/blindfold/core/SeededRandom", name := "nextLong", desc := "()J" } : Jvm.MethodName) prog_38_method_2_code (3 : Nat) (Option.some Jvm.ClassFile.FieldType.long), Jvm.Cond.code ({ cls := "com/example/blindfold/blindfold/core/SeededRandomNextLongPinLaw", name := "unmix", desc := "(J)J" } : Jvm.MethodName) method_3_code (4 : Nat) (Option.some Jvm.ClassFile.FieldType.long), Jvm.Cond.code ({ cls := "com/example/blindfold/blindfold/core/SeededRandomNextLongPinLaw", name := "inverse", desc := "(J)J" } : Jvm.MethodName) method_2_code (4 : Nat) (Option.some Jvm.ClassFile.FieldType.long)]
set_option maxRecDepth 65536 in
theorem codes_eq : words1.filter isCode = codes1 := rfl
theorem w_codes : ∀ c ∈ words1.filter isCode, c.before args0 about1 = true := by
  rw [codes_eq]
  intro c hc
  simp only [codes1, List.mem_cons, List.not_mem_nil, or_false] at hc
  rcases hc with rfl | rfl | rfl | rfl | rfl | rfl
  · exact w_c0
  · exact w_c1
  · exact w_c2
  · exact w_c3
  · exact w_c4
  · exact w_c5
set_option maxRecDepth 65536 in
theorem w_t1 : (words1.take 24).all (fun c => isCode c || c.before args0 about1) = true := by decide +kernel
set_option maxRecDepth 65536 in
theorem w_t2 : (words1.drop 24).all (fun c => isCode c || c.before args0 about1) = true := by decide +kernel
theorem w_tables : (allAtoms (Jvm.Cond.code x code maxLocals ret :: tables_1)).before args0 about1 = true := by
  rw [allAtoms_all]
  show words1.all (fun c => c.before args0 about1) = true
  refine all_split ?_ w_codes
  rw [← List.take_append_drop 24 words1, List.all_append, w_t1, w_t2]
  rfl
set_option maxRecDepth 65536 in
theorem w_case : (Jvm.Cond.and given_1 narrow_1).before args0 about1 = true := by decide +kernel
theorem w_applies : (headSpec (Jvm.Cond.code x code maxLocals ret :: tables_1) room_1).applies x e0.platform about1 = true :=
  (Spec.applies_iff w_frames).mpr ⟨w_running, w_runnable, w_alone, w_named, w_hears, w_ripe, w_room, w_tables⟩
theorem atStart : AtStart classFile x code maxLocals ret World_1 tables_1 room_1 Calls_1 rest_1 Pre_1 launch0 p0 e0 about1 theMethod args0 below0 :=
  ⟨lists_1, trivial, launch0.admits_env _ _ _, launch0.least_env, fairChoices_fair.cas, fairChoices_fair.clock, w_frames, w_args, w_heap, w_applies, trivial, trivial, w_case⟩
end start1
theorem witness_1 : WitnessClaimed_1 := ⟨start1.p0, start1.e0, start1.about1, start1.theMethod, start1.args0, start1.below0, start1.atStart⟩
end Jvm.Pilot.@@N@@
