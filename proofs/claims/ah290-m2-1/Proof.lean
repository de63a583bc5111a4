import JvmDerived
import JvmDerived.Pilot.@@N@@Statement
import JvmDerived.Pilot.@@N@@Code
set_option linter.unusedVariables false
set_option linter.unusedSimpArgs false
namespace Jvm.RoadKit
open Sem ClassFile Op Lib Jvm.Stand Jvm.Free Jvm.LawKit
/-- own: from A the walk comes to its end, and there R holds -/
def OwnGo (tb : Tables) (e : Env) (below : List Frame) (R : State → Outcome → Prop) (A : State) : Prop := ∃ s₂ o, Steps tb e below A s₂ ∧ s₂.status = .running ∧ Ended s₂ below o ∧ R s₂ o
theorem OwnGo.fwd {tb : Tables} {e : Env} {below : List Frame} {R : State → Outcome → Prop} {A B : State} (h : ∀ t, Steps tb e below B t → Steps tb e below A t) (k : OwnGo tb e below R B) : OwnGo tb e below R A := by
  obtain ⟨s, o, h1, h2⟩ := k
  exact ⟨s, o, h s h1, h2⟩
theorem OwnGo.thru {tb : Tables} {e : Env} {below : List Frame} {R : State → Outcome → Prop} {A B : State} (h : Steps tb e below A B) (k : OwnGo tb e below R B) : OwnGo tb e below R A := k.fwd fun _ q => h.trans q
/-- own: what a body leaves -/
def OwnEnd (s : State) (Q : Option Value → Heap → List Loc → Prop) (k n : Nat) : State → Outcome → Prop := fun U o => ∃ v L, o = .returned v ∧ Q v U.heap L ∧ FrameEnd s o U L k n
section OwnLeaf
variable {p : Program} {l : Launch} {e : Env} {R : Room} {s : State} {m : MethodId} {args : Array Value} {below : List Frame} {meth : Method} {c : Code} {T : State} {locs : List Loc} {cells slots : Nat} {Z : State} {a0 : Array Value} {h : Heap} {Q : Option Value → Heap → List Loc → Prop} {k n : Nat}
theorem own_leaf (X : Stand p l e R s m args below meth c T locs cells slots) (hlk : meth.locks = false) {v : Option Value} (hv : meth.sig.returnType = none → v = none) {g : JFrame} (hc : cells ≤ k) (hs : slots ≤ n) (eT : T.heap = h) (hQ : Q v h locs)
    (hl : ∀ fs, (∀ (f : JFrame) (acts : List Action), f.method = m → f.locked = none → f.entered = [] → (doReturn e (T.setTop f) acts v).1 = T.setFrames fs) → Steps p.tables e below (T.setTop g) (T.setFrames fs)) :
    OwnGo p.tables e below (OwnEnd s Q k n) (T.setTop g) := by
  obtain ⟨fs, hr, hrun, hended, hW, hsame⟩ := X.leave (v := v) hv hlk
  refine ⟨_, _, hl fs hr, hrun, hended, _, _, rfl, ?_, ⟨_, rfl⟩, hW, hsame.mono hc hs⟩
  show Q v T.heap locs
  rw [eT]; exact hQ
theorem own_retI (X : Stand p l e R s m args below meth c T locs cells slots) (hlk : meth.locks = false) (hx : p.tables.exec = Jvm.exec) {pc : Nat} {Ls : Array Slot} {z : Int32} {rest : List Value} (hret : meth.sig.returnType = some .int) (hd : decode c.code pc = .ok (.ireturn, 1)) (hc : cells ≤ k) (hs : slots ≤ n) (eT : T.heap = h) (hQ : Q (some (.int z)) h locs) :
    OwnGo p.tables e below (OwnEnd s Q k n) (T.setTop (mkF m pc Ls (.int z :: rest))) := by
  refine own_leaf X hlk (fun q => by rw [hret] at q; cases q) hc hs eT hQ fun fs hl => ?_
  have hm' : T.vm.method? m = some meth := X.method'
  have hn : narrow .int (.int z) = .int z := rfl
  show Steps p.tables e below (T.setTop { method := m, pc := pc, locals := Ls, stack := _ :: rest, locked := none }) _
  jvm_step X.here [X.here.top, hx, hd, hm', hret, hn]
  first | (intro acts; rw [hl _ acts rfl rfl rfl]) | rw [hl _ _ rfl rfl rfl]
  exact Steps.refl _
theorem own_retZ (X : Stand p l e R s m args below meth c T locs cells slots) (hlk : meth.locks = false) (hx : p.tables.exec = Jvm.exec) {pc : Nat} {Ls : Array Slot} {z : Int32} {rest : List Value} (hret : meth.sig.returnType = some .boolean) (hd : decode c.code pc = .ok (.ireturn, 1)) (hc : cells ≤ k) (hs : slots ≤ n) (eT : T.heap = h) (hQ : Q (some (.int (nar .boolean z))) h locs) :
    OwnGo p.tables e below (OwnEnd s Q k n) (T.setTop (mkF m pc Ls (.int z :: rest))) :=
  own_leaf X hlk (fun q => by rw [hret] at q; cases q) hc hs eT hQ fun fs hl => retN X hx (t := .boolean) hret (by simp) hd hl
theorem own_retJ (X : Stand p l e R s m args below meth c T locs cells slots) (hlk : meth.locks = false) (hx : p.tables.exec = Jvm.exec) {pc : Nat} {Ls : Array Slot} {z : Int64} (hret : meth.sig.returnType = some .long) (hd : decode c.code pc = .ok (.lreturn, 1)) (hc : cells ≤ k) (hs : slots ≤ n) (eT : T.heap = h) (hQ : Q (some (.long z)) h locs) :
    OwnGo p.tables e below (OwnEnd s Q k n) (T.setTop (mkF m pc Ls [.long z])) :=
  own_leaf X hlk (fun q => by rw [hret] at q; cases q) hc hs eT hQ fun fs hl => X.lreturnOut hx hret hd hl
theorem own_retV (X : Stand p l e R s m args below meth c T locs cells slots) (hlk : meth.locks = false) (hx : p.tables.exec = Jvm.exec) {pc : Nat} {Ls : Array Slot} (hret : meth.sig.returnType = none) (hd : decode c.code pc = .ok (.return_, 1)) (hc : cells ≤ k) (hs : slots ≤ n) (eT : T.heap = h) (hQ : Q none h locs) :
    OwnGo p.tables e below (OwnEnd s Q k n) (T.setTop (mkF m pc Ls [])) :=
  own_leaf X hlk (fun _ => rfl) hc hs eT hQ fun fs hl => X.returnOut hx hret hd hl
theorem own_retA (X : Stand p l e R s m args below meth c T locs cells slots) (hlk : meth.locks = false) (hx : p.tables.exec = Jvm.exec) {pc : Nat} {Ls : Array Slot} {w : Value} {rest : List Value} {t : FieldType} (hret : meth.sig.returnType = some t) (ht : t.isReference = true) (hw : w.isRef = true) (hd : decode c.code pc = .ok (.areturn, 1)) (hc : cells ≤ k) (hs : slots ≤ n) (eT : T.heap = h) (hQ : Q (some w) h locs) :
    OwnGo p.tables e below (OwnEnd s Q k n) (T.setTop (mkF m pc Ls (w :: rest))) :=
  own_leaf X hlk (fun q => by rw [hret] at q; cases q) hc hs eT hQ fun fs hl => retOut X hx hret (by cases t <;> first | (cases ht; done) | rfl) (Or.inr (Or.inr (Or.inr (Or.inr ⟨rfl, ht, hw⟩)))) hd hl
/-! own: int arrays, by a function of the place -/
def OwnIA (Z : State) (h : Heap) (a : Addr) (n : Nat) (f : Nat → Int32) : Prop := ∃ c : Cell, Arr Z h a c .int ∧ c.slots.size = n ∧ n < 2147483648 ∧ ∀ i, i < n → c.slots[i]? = some (.int (f i))
theorem OwnIA.lt {a : Addr} {n : Nat} {f : Nat → Int32} (F : OwnIA Z h a n f) : a < h.size := by obtain ⟨c, A, -⟩ := F; exact A.lt
theorem OwnIA.ext {h' : Heap} {a : Addr} {n : Nat} {f : Nat → Int32} (F : OwnIA Z h a n f) (E : Ext h h') : OwnIA Z h' a n f := by obtain ⟨c, A, r⟩ := F; exact ⟨c, A.ext E, r⟩
theorem OwnIA.other {h' : Heap} {a b : Addr} {n sl : Nat} {v : Value} {f : Nat → Int32} (F : OwnIA Z h b n f) (W : Wr h h' a sl v) (q : b ≠ a) : OwnIA Z h' b n f := by obtain ⟨c, A, r⟩ := F; exact ⟨c, A.other W q, r⟩
theorem OwnIA.keep {h' : Heap} {ws : List Addr} {a : Addr} {n : Nat} {f : Nat → Int32} (F : OwnIA Z h a n f) (K : Keep h h' ws) (q : a ∉ ws) : OwnIA Z h' a n f := by obtain ⟨c, A, r⟩ := F; exact ⟨c, ⟨K.2.1 a c A.1 q, A.2⟩, r⟩
theorem OwnIA.eqv {a : Addr} {n : Nat} {f f' : Nat → Int32} (F : OwnIA Z h a n f) (q : ∀ i, i < n → f i = f' i) : OwnIA Z h a n f' := by obtain ⟨c, A, r1, r2, r3⟩ := F; exact ⟨c, A, r1, r2, fun i hi => by rw [r3 i hi, q i hi]⟩
theorem own_clamp {j : Int32} {i : Nat} (hj : j.toInt = i) : j.toNatClampNeg = i := by simp only [Int32.toNatClampNeg]; omega
theorem own_inb {c : Cell} {j : Int32} {i n : Nat} (S : c.slots.size = n) (hj : j.toInt = i) (hi : i < n) : ¬ (j < 0 ∨ c.slots.size ≤ j.toNatClampNeg) := by
  rw [own_clamp hj, S]; simp only [Int32.lt_iff_toInt_lt, Int32.reduceToInt]; omega
theorem OwnIA.new {a : Addr} {k : ClassId} {z : Int32} {i : Nat} (A : Arr Z h a (newA k .int z) .int) (hz : z.toInt = i) : OwnIA Z h a i (fun _ => 0) := by
  have q := own_clamp hz
  have r := rng32 z
  exact ⟨_, A, by rw [sz_new]; exact q, by omega, fun j hj => by simp [newA, q, hj, defaultValue]⟩
theorem own_len (X : Stand p l e R s m args below meth c T locs cells slots) (hx : p.tables.exec = Jvm.exec) (hZ : Z.Warmed39 s.vm) (eT : T.heap = h) {a : Addr} {n : Nat} {f : Nat → Int32} (V : OwnIA Z h a n f) {g : JFrame} (hg : g.method = m) {rest : List Value} (hs : g.stack = .ref a :: rest) (hd : decode c.code g.pc = .ok (.arraylength, 1)) :
    ∀ target, Steps p.tables e below (T.setTop { g with pc := g.pc + 1, stack := .int (Int32.ofNat n) :: rest }) target → Steps p.tables e below (T.setTop g) target := by
  obtain ⟨cl, A, S, -⟩ := V
  subst S
  exact X.arraylength hx (by rw [eT]; exact A.1) (State.isArrayOf_alike hZ.alike A.2.1) hg hs hd
theorem own_iaload (X : Stand p l e R s m args below meth c T locs cells slots) (hx : p.tables.exec = Jvm.exec) (hZ : Z.Warmed39 s.vm) (eT : T.heap = h) {a : Addr} {n : Nat} {f : Nat → Int32} (V : OwnIA Z h a n f) {j : Int32} {i : Nat} (hj : j.toInt = i) (hi : i < n) {g : JFrame} (hg : g.method = m) {rest : List Value} (hs : g.stack = .int j :: .ref a :: rest) (hd : decode c.code g.pc = .ok (.iaload, 1)) :
    ∀ target, Steps p.tables e below (T.setTop { g with pc := g.pc + 1, stack := .int (f i) :: rest }) target → Steps p.tables e below (T.setTop g) target := by
  obtain ⟨cl, A, S, -, H⟩ := V
  exact X.iaload hx (by rw [eT]; exact A.1) (State.isArrayOf_alike hZ.alike A.2.1) A.2.2 (own_inb S hj hi) (by rw [own_clamp hj]; exact H i hi) hg hs hd
theorem own_iastore (X : Stand p l e R s m args below meth c T locs cells slots) (hx : p.tables.exec = Jvm.exec) (hZ : Z.Warmed39 s.vm) (eT : T.heap = h) {a : Addr} {n : Nat} {f : Nat → Int32} (V : OwnIA Z h a n f) {j x : Int32} {i : Nat} (hj : j.toInt = i) (hi : i < n) {g : JFrame} (hg : g.method = m) {rest : List Value} (hs : g.stack = .int x :: .int j :: .ref a :: rest) (hd : decode c.code g.pc = .ok (.iastore, 1)) :
    ∃ T' h', Stand p l e R s m args below meth c T' (locs ++ [⟨a, i⟩]) cells slots ∧ T'.heap = h' ∧ Wr h h' a i (.int x) ∧ OwnIA Z h' a n (fun k => if k = i then x else f k) ∧ ∀ target, Steps p.tables e below (T'.setTop { g with pc := g.pc + 1, stack := rest }) target → Steps p.tables e below (T.setTop g) target := by
  obtain ⟨cl, A, S, N, H⟩ := V
  obtain ⟨T', h', X', e', W, st⟩ := stI X hx hZ eT A (own_inb S hj hi) hg hs hd
  rw [own_clamp hj] at X' W
  refine ⟨T', h', X', e', W, ⟨_, A.same W, by rw [sz_set]; exact S, N, fun k hk => ?_⟩, st⟩
  by_cases q : k = i
  · subst q; simp [Cell.setSlot, S, hk]
  · simp only [Cell.setSlot, if_neg q]; rw [Array.getElem?_setIfInBounds_ne (Ne.symm q)]; exact H k hk
theorem own_newI (X : Stand p l e R s m args below meth c T locs cells slots) (hx : p.tables.exec = Jvm.exec) (hZ : Z.Warmed39 s.vm) (w : (Cond.arrayClass .int).before a0 Z = true) (eT : T.heap = h) {g : JFrame} (hg : g.method = m) (hd : decode c.code g.pc = .ok (.newarray .int, 2)) {z : Int32} {i : Nat} {rest : List Value} (hs : g.stack = .int z :: rest)
    (hz : z.toInt = i) {cap : Nat} (hcap : i ≤ cap) (hb : cap * 8 ≤ 536870912) (hc : cells + 1 ≤ R.cells) (hl : slots + cap ≤ R.slots) :
    ∃ T' h' a, Stand p l e R s m args below meth c T' locs (cells + 1) (slots + cap) ∧ T'.heap = h' ∧ Ext h h' ∧ a = h.size ∧ OwnIA Z h' a i (fun _ => 0) ∧ ∀ target, Steps p.tables e below (T'.setTop { g with pc := g.pc + 2, stack := .ref a :: rest }) target → Steps p.tables e below (T.setTop g) target := by
  have q := own_clamp hz
  obtain ⟨T', h', cA, X', e', E, A, st⟩ := newP X hx hZ (aty := .int) w eT hg hd hs (by simp only [Int32.lt_iff_toInt_lt, Int32.reduceToInt]; omega) (cap := cap) (by omega) hb hc hl
  exact ⟨T', h', _, X', e', E, rfl, OwnIA.new A hz, st⟩
end OwnLeaf
/-! own: branches, by the ints' own numbers -/
theorem own_blt {x y : Int32} {a b : Int} (hx : x.toInt = a) (hy : y.toInt = b) (h : a < b) : if_icmp.holds .lt x y = true ∧ if_icmp.holds .ge x y = false ∧ if_icmp.holds .gt y x = true ∧ if_icmp.holds .le y x = false := tlt (by rw [Int32.lt_iff_toInt_lt]; omega)
theorem own_bnlt {x y : Int32} {a b : Int} (hx : x.toInt = a) (hy : y.toInt = b) (h : ¬ a < b) : if_icmp.holds .lt x y = false ∧ if_icmp.holds .ge x y = true ∧ if_icmp.holds .gt y x = false ∧ if_icmp.holds .le y x = true := flt (by rw [Int32.lt_iff_toInt_lt]; omega)
theorem own_beq {x y : Int32} {a b : Int} (hx : x.toInt = a) (hy : y.toInt = b) (h : a = b) : if_icmp.holds .eq x y = true ∧ if_icmp.holds .ne x y = false := teq (Int32.toInt_inj.mp (by omega))
theorem own_bneq {x y : Int32} {a b : Int} (hx : x.toInt = a) (hy : y.toInt = b) (h : ¬ a = b) : if_icmp.holds .eq x y = false ∧ if_icmp.holds .ne x y = true := feq fun q => h (by rw [← hx, ← hy, q])
theorem own_Llt {x y : Int64} {a b : Int} (hx : x.toInt = a) (hy : y.toInt = b) (h : a < b) : ifCond.holds .lt (lcmpW x y) = true ∧ ifCond.holds .ge (lcmpW x y) = false := by
  have q : x < y := by rw [Int64.lt_iff_toInt_lt]; omega
  rw [if0, if0]; exact ⟨(tlt ((lw_lt x y).mpr q)).1, (tlt ((lw_lt x y).mpr q)).2.1⟩
theorem own_Lnlt {x y : Int64} {a b : Int} (hx : x.toInt = a) (hy : y.toInt = b) (h : ¬ a < b) : ifCond.holds .lt (lcmpW x y) = false ∧ ifCond.holds .ge (lcmpW x y) = true := by
  have q : ¬ x < y := by rw [Int64.lt_iff_toInt_lt]; omega
  rw [if0, if0]; exact ⟨(flt (fun r => q ((lw_lt x y).mp r))).1, (flt (fun r => q ((lw_lt x y).mp r))).2.1⟩
theorem own_Lgt {x y : Int64} {a b : Int} (hx : x.toInt = a) (hy : y.toInt = b) (h : b < a) : ifCond.holds .gt (lcmpW x y) = true ∧ ifCond.holds .le (lcmpW x y) = false := by
  have q : y < x := by rw [Int64.lt_iff_toInt_lt]; omega
  rw [if0, if0]; exact ⟨(tlt ((lw_gt x y).mpr q)).2.2.1, (tlt ((lw_gt x y).mpr q)).2.2.2⟩
theorem own_Lngt {x y : Int64} {a b : Int} (hx : x.toInt = a) (hy : y.toInt = b) (h : ¬ b < a) : ifCond.holds .gt (lcmpW x y) = false ∧ ifCond.holds .le (lcmpW x y) = true := by
  have q : ¬ y < x := by rw [Int64.lt_iff_toInt_lt]; omega
  rw [if0, if0]; exact ⟨(flt (fun r => q ((lw_gt x y).mp r))).2.2.1, (flt (fun r => q ((lw_gt x y).mp r))).2.2.2⟩
theorem own_Leq {x y : Int64} {a b : Int} (hx : x.toInt = a) (hy : y.toInt = b) (h : a = b) : ifCond.holds .eq (lcmpW x y) = true ∧ ifCond.holds .ne (lcmpW x y) = false := by
  have q : x = y := Int64.toInt_inj.mp (by omega)
  rw [if0, if0]; exact teq ((lw_eq x y).mpr q)
theorem own_Lneq {x y : Int64} {a b : Int} (hx : x.toInt = a) (hy : y.toInt = b) (h : ¬ a = b) : ifCond.holds .eq (lcmpW x y) = false ∧ ifCond.holds .ne (lcmpW x y) = true := by
  have q : ¬ x = y := fun r => h (by rw [← hx, ← hy, r])
  rw [if0, if0]; exact feq fun r => q ((lw_eq x y).mp r)
theorem own_ofNat {i : Nat} (h : i < 2147483648) : (Int32.ofNat i).toInt = (i : Int) := Int32.toInt_ofNat_small h
theorem own_ofNatS (i : Nat) : Int32.ofNat i + 1 = Int32.ofNat (i + 1) := (Int32.ofNat_add i 1).symm
theorem own_fieldInt {args : Array Value} {s : State} {t : Term} {C n d : String} {k : Int32} {w : Addr} (ht : t.eval args s none [] s = some (.ref w)) (h : (Jvm.Cond.eq (.field t C n d) (.int k)).value args s none s [] = some true) : Fld s s.heap w C n d (.int k) := by
  apply Fld.start
  obtain ⟨x, y, hx, hy, -, k2⟩ := cmp_v (Or.inl h)
  have hy' : y = .int k := Option.some.inj (hy.symm.trans (Term.int_eval k))
  subst hy'
  obtain ⟨z, rfl⟩ : ∃ z, x = .int z := k2
  have q := gotT (Cond.eq_ints hx hy) h
  subst q
  rw [← fld_at ht]; exact hx
end Jvm.RoadKit
namespace Jvm.RoadKit
open Sem ClassFile Op Lib Jvm.Stand Jvm.Free Jvm.LawKit
theorem own_selp {s : State} {args : Array Value} {y : MethodName} {kk : Nat} (wi : (Cond.instantiable y.cls kk).before args s = true) (hp : s.PrivateAt y) (win : (Cond.instanceMethod y).before args s = true) (hy : y.cls ≠ "java/lang/invoke/MethodHandle" ∧ y.cls ≠ "java/lang/invoke/VarHandle") : (Cond.selects y.cls y y).before args s = true := by
  obtain ⟨c, k, h1, h2, -, h4, -⟩ := Cond.instantiable_spec wi
  exact selects_self_of_private h1 h2 (by simp only [Bool.or_eq_false_iff] at h4; exact h4.1) hp win hy
end Jvm.RoadKit
namespace Jvm.Pilot.@@N@@
open Jvm Jvm.ClassFile Sem Op Lib Jvm.Free Jvm.Stand Jvm.LawKit Jvm.RoadKit Bundle Jvm.Pilot.@@N@@.Jvm.D
/-! own: the plain law of a table of open addressing with 16 places -/
def own_hv (x : Int32) : Int32 := ((x * (-1640531527 : Int32)).toUInt32 >>> ((28 : Int32) &&& 31).toUInt32).toInt32
def own_hs (x : Int32) : Nat := (own_hv x).toInt.toNat
theorem own_hv_at (x : Int32) : (own_hv x).toInt = (own_hs x : Int) ∧ own_hs x < 16 := by
  have q := c_iushr (x * (-1640531527 : Int32)) (28 : Int32) 28 (by decide) (by decide)
  have r : (own_hv x).toInt = ((x * (-1640531527 : Int32)).toInt % 4294967296) / (2 ^ 28 : Nat) := q
  unfold own_hs
  omega
def own_up (f : Nat → Int32) (p : Nat) (x : Int32) : Nat → Int32 := fun k => if k = p then x else f k
theorem own_up_at (f : Nat → Int32) (p : Nat) (x : Int32) : own_up f p x p = x := if_pos rfl
theorem own_up_ne (f : Nat → Int32) {p k : Nat} (x : Int32) (h : k ≠ p) : own_up f p x k = f k := if_neg h
def own_cnt (f : Nat → Int32) : Nat → Nat
  | 0 => 0
  | n + 1 => own_cnt f n + (if f n = 0 then 0 else 1)
theorem own_cnt_z (f : Nat → Int32) (n : Nat) (h : f n = 0) : own_cnt f (n + 1) = own_cnt f n := by simp [own_cnt, h]
theorem own_cnt_s (f : Nat → Int32) (n : Nat) (h : f n ≠ 0) : own_cnt f (n + 1) = own_cnt f n + 1 := by simp [own_cnt, h]
theorem own_cnt_mono (f : Nat → Int32) {i n : Nat} (h : i ≤ n) : own_cnt f i ≤ own_cnt f n := by
  induction n with
  | zero => simp [Nat.le_zero.mp h]
  | succ n ih =>
    rcases Nat.lt_or_ge n i with q | q
    · have : i = n + 1 := by omega
      subst this; exact Nat.le_refl _
    · exact Nat.le_trans (ih q) (by simp [own_cnt])
theorem own_cnt_lt (f : Nat → Int32) {i n : Nat} (h : i < n) (hf : f i ≠ 0) : own_cnt f i < own_cnt f n := by
  have q := own_cnt_mono f (show i + 1 ≤ n from h)
  rw [own_cnt_s f i hf] at q; omega
theorem own_cnt_all (f : Nat → Int32) (n : Nat) (h : ∀ i, i < n → f i ≠ 0) : own_cnt f n = n := by
  induction n with
  | zero => rfl
  | succ n ih => rw [own_cnt_s f n (h n (by omega)), ih fun i hi => h i (by omega)]
theorem own_cnt_zero {f : Nat → Int32} {n : Nat} (h : own_cnt f n < n) : ∃ i, i < n ∧ f i = 0 := by
  apply Classical.byContradiction
  intro q
  have := own_cnt_all f n fun i hi e => q ⟨i, hi, e⟩
  omega
theorem own_cnt_out (f : Nat → Int32) (p : Nat) (x : Int32) : ∀ n, n ≤ p → own_cnt (own_up f p x) n = own_cnt f n
  | 0, _ => rfl
  | n + 1, h => by simp only [own_cnt]; rw [own_cnt_out f p x n (by omega), own_up_ne f x (show n ≠ p by omega)]
theorem own_cnt_up (f : Nat → Int32) (p : Nat) (x : Int32) (hp : f p = 0) (hx : x ≠ 0) : ∀ n, p < n → own_cnt (own_up f p x) n = own_cnt f n + 1
  | 0, h => absurd h (Nat.not_lt_zero _)
  | n + 1, h => by
    rcases Nat.lt_or_ge p n with q | q
    · simp only [own_cnt]; rw [own_cnt_up f p x hp hx n q, own_up_ne f x (show n ≠ p by omega)]; omega
    · have : n = p := by omega
      subst this
      rw [own_cnt_s _ _ (by rw [own_up_at]; exact hx), own_cnt_z _ _ hp, own_cnt_out f n x n (Nat.le_refl _)]
def own_PI (f : Nat → Int32) : Prop := ∀ i, i < 16 → f i ≠ 0 → ∃ d, d < 16 ∧ (own_hs (f i) + d) % 16 = i ∧ ∀ k, k ≤ d → f ((own_hs (f i) + k) % 16) ≠ 0
def own_pr (f : Nat → Int32) (x : Int32) : Prop := ∃ i, i < 16 ∧ f i = x
theorem own_absent {f : Nat → Int32} {x : Int32} {k : Nat} (P : own_PI f) (hx : x ≠ 0) (hl : ∀ j, j < k → f ((own_hs x + j) % 16) ≠ x) (hz : f ((own_hs x + k) % 16) = 0) : ¬ own_pr f x := by
  rintro ⟨i, hi, e⟩
  obtain ⟨d, hd, hdi, hall⟩ := P i hi (by rw [e]; exact hx)
  rw [e] at hdi hall
  rcases Nat.lt_or_ge d k with q | q
  · exact hl d q (by rw [hdi]; exact e)
  · exact hall k q hz
theorem own_PI_up {f : Nat → Int32} {x : Int32} {k : Nat} (P : own_PI f) (hx : x ≠ 0) (hk : k < 16) (hl : ∀ j, j < k → f ((own_hs x + j) % 16) ≠ 0) : own_PI (own_up f ((own_hs x + k) % 16) x) := by
  have nz : ∀ q, f q ≠ 0 → own_up f ((own_hs x + k) % 16) x q ≠ 0 := fun q h => by
    by_cases e : q = (own_hs x + k) % 16
    · subst e; rw [own_up_at]; exact hx
    · rw [own_up_ne f x e]; exact h
  intro i hi hf
  by_cases e : i = (own_hs x + k) % 16
  · subst e
    rw [own_up_at]
    refine ⟨k, hk, rfl, fun q hq => ?_⟩
    rcases Nat.lt_or_ge q k with r | r
    · exact nz _ (hl q r)
    · have : q = k := by omega
      subst this; rw [own_up_at]; exact hx
  · rw [own_up_ne f x e] at hf ⊢
    obtain ⟨d, hd, hdi, hall⟩ := P i hi hf
    exact ⟨d, hd, hdi, fun q hq => nz _ (hall q hq)⟩
theorem own_pr_up {f : Nat → Int32} {x : Int32} {p : Nat} (hp : p < 16) (hz : f p = 0) (y : Int32) (hy : y ≠ 0) : own_pr (own_up f p x) y ↔ own_pr f y ∨ y = x := by
  constructor
  · rintro ⟨i, hi, e⟩
    by_cases q : i = p
    · subst q; rw [own_up_at] at e; exact Or.inr e.symm
    · rw [own_up_ne f x q] at e; exact Or.inl ⟨i, hi, e⟩
  · rintro (⟨i, hi, e⟩ | rfl)
    · have q : i ≠ p := fun q => by subst q; rw [hz] at e; exact hy e.symm
      exact ⟨i, hi, by rw [own_up_ne f x q]; exact e⟩
    · exact ⟨p, hp, own_up_at f p y⟩
def own_Inv (f : Nat → Int32) (n : Nat) : Prop := own_cnt f 16 = n ∧ own_PI f
/-- own: what put leaves -/
def own_put (f : Nat → Int32) (n : Nat) (x : Int32) (f' : Nat → Int32) (n' : Nat) : Prop := own_Inv f' n' ∧ ((own_pr f x ∧ n' = n) ∨ (¬ own_pr f x ∧ n' = n + 1)) ∧ ∀ y, y ≠ 0 → (own_pr f' y ↔ own_pr f y ∨ y = x)
theorem own_put_old {f : Nat → Int32} {n : Nat} {x : Int32} (V : own_Inv f n) {p : Nat} (hp : p < 16) (h : f p = x) : own_put f n x f n :=
  ⟨V, Or.inl ⟨⟨p, hp, h⟩, rfl⟩, fun y _ => ⟨Or.inl, fun q => q.elim id fun e => e ▸ ⟨p, hp, h⟩⟩⟩
theorem own_put_new {f : Nat → Int32} {n : Nat} {x : Int32} {k : Nat} (V : own_Inv f n) (hx : x ≠ 0) (hk : k < 16) (hl : ∀ j, j < k → f ((own_hs x + j) % 16) ≠ x ∧ f ((own_hs x + j) % 16) ≠ 0) (hz : f ((own_hs x + k) % 16) = 0) : own_put f n x (own_up f ((own_hs x + k) % 16) x) (n + 1) :=
  ⟨⟨by rw [own_cnt_up f _ x hz hx 16 (Nat.mod_lt _ (by decide)), V.1], own_PI_up V.2 hx hk fun j hj => (hl j hj).2⟩, Or.inr ⟨own_absent V.2 hx (fun j hj => (hl j hj).1) hz, rfl⟩, fun y hy => own_pr_up (Nat.mod_lt _ (by decide)) hz y hy⟩
theorem own_Inv0 : own_Inv (fun _ => 0) 0 := ⟨by decide, fun i hi h => absurd rfl h⟩
theorem own_pr0 {y : Int32} (hy : y ≠ 0) : ¬ own_pr (fun _ => 0) y := fun ⟨_, _, e⟩ => hy e.symm
theorem own_zeroat {f : Nat → Int32} {n : Nat} (V : own_Inv f n) (hn : n < 16) (h : Nat) (hh : h < 16) : ∃ d, d < 16 ∧ f ((h + d) % 16) = 0 := by
  obtain ⟨i, hi, e⟩ := own_cnt_zero (f := f) (n := 16) (by rw [V.1]; exact hn)
  refine ⟨(i + 16 - h) % 16, Nat.mod_lt _ (by decide), ?_⟩
  rw [show (h + (i + 16 - h) % 16) % 16 = i by omega]; exact e
/-- own: a NumbersById with its two int arrays -/
def own_N (Z : State) (h : Heap) (n0 : Nat) (a ia na : Addr) (n : Nat) (f g : Nat → Int32) : Prop :=
  Exa Z h a "com/example/rolestack/rolestack/NumbersById" ∧ Fld Z h a "com/example/rolestack/rolestack/NumbersById" "ids" "[I" (.ref ia) ∧ Fld Z h a "com/example/rolestack/rolestack/NumbersById" "numbers" "[I" (.ref na) ∧ Fld Z h a "com/example/rolestack/rolestack/NumbersById" "shift" "I" (.int 28) ∧ Fld Z h a "com/example/rolestack/rolestack/NumbersById" "size" "I" (.int (Int32.ofNat n)) ∧ OwnIA Z h ia 16 f ∧ OwnIA Z h na 16 g ∧ a ≠ ia ∧ a ≠ na ∧ ia ≠ na ∧ n0 ≤ a ∧ n0 ≤ ia ∧ n0 ≤ na
theorem own_five (x : Int32) : (x &&& (2147483647 : Int32)) % (5 : Int32) = 0 ∨ (x &&& (2147483647 : Int32)) % (5 : Int32) = 1 ∨ (x &&& (2147483647 : Int32)) % (5 : Int32) = 2 ∨ (x &&& (2147483647 : Int32)) % (5 : Int32) = 3 ∨ (x &&& (2147483647 : Int32)) % (5 : Int32) = 4 := by
  have q := c_and x (2147483647 : Int32) (by decide)
  have r := (c_irem (x &&& (2147483647 : Int32)) (5 : Int32) 5 (by decide)).1 q.1
  simp only [← Int32.toInt_inj, r, Int32.reduceToInt]
  omega
theorem own_nz {x : Int32} (h : ¬ x.toInt = 0) : x ≠ 0 := fun q => h (by rw [q]; decide)
theorem own_zi {x : Int32} (h : x.toInt = 0) : x = 0 := Int32.toInt_inj.mp (by rw [h]; decide)
theorem own_ei {x y : Int32} (h : x.toInt = y.toInt) : x = y := Int32.toInt_inj.mp h
theorem own_ni {x y : Int32} (h : ¬ x.toInt = y.toInt) : x ≠ y := fun q => h (by rw [q])
theorem own_inc {x : Int32} {k : Nat} (h : x.toInt = (k : Int)) (hk : k < 1000) : (x + 1).toInt = ((k + 1 : Nat) : Int) := by
  have q := c_iadd x 1
  have e1 : (1 : Int32).toInt = 1 := by decide
  have r := rng32 (x + 1)
  omega
theorem own_next {pl : Int32} {k : Nat} {q : Nat} (h : pl.toInt = ((q + k) % 16 : Nat)) : ((pl + 1) &&& (15 : Int32)).toInt = ((q + (k + 1)) % 16 : Nat) := by
  have m := c_mask (pl + 1) (15 : Int32) 4 (by decide) (by decide)
  have c1 := c_iadd pl 1
  have e1 : (1 : Int32).toInt = 1 := by decide
  have r := rng32 (pl + 1)
  omega
theorem pd_0 : parseMethodDescriptor "(I)V" = some ⟨[.int], none⟩ := by decide +kernel
theorem pd_1 : parseMethodDescriptor "()V" = some ⟨[], none⟩ := by decide +kernel
theorem pd_2 : parseMethodDescriptor "(I)I" = some ⟨[.int], some .int⟩ := by decide +kernel
theorem pd_3 : parseMethodDescriptor "()[I" = some ⟨[], some (.array .int)⟩ := by decide +kernel
theorem pd_4 : parseMethodDescriptor "(II)V" = some ⟨[.int, .int], none⟩ := by decide +kernel
theorem pd_5 : parseMethodDescriptor "([II)Z" = some ⟨[(.array .int), .int], some .boolean⟩ := by decide +kernel
theorem d3_0 : decode jdk_33_method_47_code 0 = .ok (.iload_n 0, 1) := by decide +kernel
theorem d3_1 : decode jdk_33_method_47_code 1 = .ok (.ifCond .gt 14, 3) := by decide +kernel
theorem d3_4 : decode jdk_33_method_47_code 4 = .ok (.iload_n 0, 1) := by decide +kernel
theorem d3_5 : decode jdk_33_method_47_code 5 = .ok (.ifCond .ne 8, 3) := by decide +kernel
theorem d3_8 : decode jdk_33_method_47_code 8 = .ok (.bipush 32, 2) := by decide +kernel
theorem d3_10 : decode jdk_33_method_47_code 10 = .ok (.goto 4, 3) := by decide +kernel
theorem d3_13 : decode jdk_33_method_47_code 13 = .ok (.iconst 0, 1) := by decide +kernel
theorem d3_14 : decode jdk_33_method_47_code 14 = .ok (.ireturn, 1) := by decide +kernel
theorem d3_15 : decode jdk_33_method_47_code 15 = .ok (.bipush 31, 2) := by decide +kernel
theorem d3_17 : decode jdk_33_method_47_code 17 = .ok (.istore_n 1, 1) := by decide +kernel
theorem d3_18 : decode jdk_33_method_47_code 18 = .ok (.iload_n 0, 1) := by decide +kernel
theorem d3_19 : decode jdk_33_method_47_code 19 = .ok (.ldc_w 264, 3) := by decide +kernel
theorem d3_22 : decode jdk_33_method_47_code 22 = .ok (.if_icmp .lt 11, 3) := by decide +kernel
theorem d3_25 : decode jdk_33_method_47_code 25 = .ok (.iinc 1 (-16), 3) := by decide +kernel
theorem d3_28 : decode jdk_33_method_47_code 28 = .ok (.iload_n 0, 1) := by decide +kernel
theorem d3_29 : decode jdk_33_method_47_code 29 = .ok (.bipush 16, 2) := by decide +kernel
theorem d3_31 : decode jdk_33_method_47_code 31 = .ok (.iushr, 1) := by decide +kernel
theorem d3_32 : decode jdk_33_method_47_code 32 = .ok (.istore_n 0, 1) := by decide +kernel
theorem d3_33 : decode jdk_33_method_47_code 33 = .ok (.iload_n 0, 1) := by decide +kernel
theorem d3_34 : decode jdk_33_method_47_code 34 = .ok (.sipush 256, 3) := by decide +kernel
theorem d3_37 : decode jdk_33_method_47_code 37 = .ok (.if_icmp .lt 11, 3) := by decide +kernel
theorem d3_40 : decode jdk_33_method_47_code 40 = .ok (.iinc 1 (-8), 3) := by decide +kernel
theorem d3_43 : decode jdk_33_method_47_code 43 = .ok (.iload_n 0, 1) := by decide +kernel
theorem d3_44 : decode jdk_33_method_47_code 44 = .ok (.bipush 8, 2) := by decide +kernel
theorem d3_46 : decode jdk_33_method_47_code 46 = .ok (.iushr, 1) := by decide +kernel
theorem d3_47 : decode jdk_33_method_47_code 47 = .ok (.istore_n 0, 1) := by decide +kernel
theorem d3_48 : decode jdk_33_method_47_code 48 = .ok (.iload_n 0, 1) := by decide +kernel
theorem d3_49 : decode jdk_33_method_47_code 49 = .ok (.bipush 16, 2) := by decide +kernel
theorem d3_51 : decode jdk_33_method_47_code 51 = .ok (.if_icmp .lt 10, 3) := by decide +kernel
theorem d3_54 : decode jdk_33_method_47_code 54 = .ok (.iinc 1 (-4), 3) := by decide +kernel
theorem d3_57 : decode jdk_33_method_47_code 57 = .ok (.iload_n 0, 1) := by decide +kernel
theorem d3_58 : decode jdk_33_method_47_code 58 = .ok (.iconst 4, 1) := by decide +kernel
theorem d3_59 : decode jdk_33_method_47_code 59 = .ok (.iushr, 1) := by decide +kernel
theorem d3_60 : decode jdk_33_method_47_code 60 = .ok (.istore_n 0, 1) := by decide +kernel
theorem d3_61 : decode jdk_33_method_47_code 61 = .ok (.iload_n 0, 1) := by decide +kernel
theorem d3_62 : decode jdk_33_method_47_code 62 = .ok (.iconst 4, 1) := by decide +kernel
theorem d3_63 : decode jdk_33_method_47_code 63 = .ok (.if_icmp .lt 10, 3) := by decide +kernel
theorem d3_66 : decode jdk_33_method_47_code 66 = .ok (.iinc 1 (-2), 3) := by decide +kernel
theorem d3_69 : decode jdk_33_method_47_code 69 = .ok (.iload_n 0, 1) := by decide +kernel
theorem d3_70 : decode jdk_33_method_47_code 70 = .ok (.iconst 2, 1) := by decide +kernel
theorem d3_71 : decode jdk_33_method_47_code 71 = .ok (.iushr, 1) := by decide +kernel
theorem d3_72 : decode jdk_33_method_47_code 72 = .ok (.istore_n 0, 1) := by decide +kernel
theorem d3_73 : decode jdk_33_method_47_code 73 = .ok (.iload_n 1, 1) := by decide +kernel
theorem d3_74 : decode jdk_33_method_47_code 74 = .ok (.iload_n 0, 1) := by decide +kernel
theorem d3_75 : decode jdk_33_method_47_code 75 = .ok (.iconst 1, 1) := by decide +kernel
theorem d3_76 : decode jdk_33_method_47_code 76 = .ok (.iushr, 1) := by decide +kernel
theorem d3_77 : decode jdk_33_method_47_code 77 = .ok (.isub, 1) := by decide +kernel
theorem d3_78 : decode jdk_33_method_47_code 78 = .ok (.ireturn, 1) := by decide +kernel
theorem pn_3 : plainFor (⟨"java/lang/Integer", "numberOfLeadingZeros", "(I)I"⟩ : MethodName) = true := plainFor_of_name (by first | (simp [plainName, overriddenIn]; done) | decide +kernel)
theorem ef_3 (m : MethodId) (x0 : Int32) : entryFrame m #[(.int x0)] 2 = mkF m 0 #[.val (.int x0), .unset] [] := by first | (simp [entryFrame, mkF, argsToLocals, Value.category, maxLocals]; done) | rfl
def Q3 (Z : State) (h0 : Heap) (n0 : Nat) (v : Option Value) (h : Heap) (L : List Loc) : Prop := v = some (.int 27) ∧ Fr n0 L ∧ h = h0
set_option maxRecDepth 65536 in
set_option maxHeartbeats 40000000 in
theorem rm3 (l : Launch) (Z : State) (a0 : Array Value) (hw : ∀ d ∈ tables_1, d.before a0 Z = true) (ws : List Jvm.Cond) (h0 : Heap) (n0 : Nat) (Z0 : n0 ≤ h0.size) :
    MetFree l (⟨"java/lang/Integer", "numberOfLeadingZeros", "(I)I"⟩ : MethodName) (head1 (Jvm.Cond.code (⟨"java/lang/Integer", "numberOfLeadingZeros", "(I)I"⟩ : MethodName) jdk_33_method_47_code 2 (some .int) :: ws) ({ frames := 0, cells := 0, slots := 0, locals := 0 } : Room)) (fun arr' U => arr' = #[(.int (16 : Int32))] ∧ Z.Warmed39 U.vm ∧ U.heap = h0) (fun _ _ _ _ _ => True) (fun _ U o U' => ∃ v L, o = .returned v ∧ (Q3 Z  h0 n0) v U'.heap L ∧ FrameEnd U o U' L ({ frames := 0, cells := 0, slots := 0, locals := 0 } : Room).cells ({ frames := 0, cells := 0, slots := 0, locals := 0 } : Room).slots) := by
  refine MetFree.of_bodySF pn_3 hisR ?_
  intro p e s m args below meth c s₁ Bd hml0 hP hK
  obtain ⟨rfl, hZ, hh⟩ := hP
  have hx := Bd.exec
  have hby := Bd.bytes
  have hlk : meth.locks = false := BodyLoose.notSynchronized Bd
  have hml : c.maxLocals = 2 := hml0
  have hown : s.vm.findClass "java/lang/Integer" = some m.cls := findClass_of_methodNamed Bd.named
  have hnm := (name_of_methodNamed Bd.named Bd.method).1
  have X0 : Stand p l e ({ frames := 0, cells := 0, slots := 0, locals := 0 } : Room) s m #[(.int (16 : Int32))] below meth c s₁ [] 0 0 := Stand.of_body Bd
  have e0 : s₁.heap = h0 := by rw [← hh, Bd.state]; rfl
  have N := Fr.nil n0
  have Zs := Z0
  change OwnGo p.tables e below (OwnEnd s (Q3 Z  h0 n0) ({ frames := 0, cells := 0, slots := 0, locals := 0 } : Room).cells ({ frames := 0, cells := 0, slots := 0, locals := 0 } : Room).slots) _
  refine OwnGo.fwd (fun tq' kq' => castTop (ef_3 m (16 : Int32)) kq') ?_
  show OwnGo _ _ _ _ (s₁.setTop (mkF m 0 #[.val (.int (16 : Int32)), .unset] []))
  refine OwnGo.fwd (fun tq' kq' => XS.iloadN X0.here hx rfl (hb hby d3_0) rfl kq') ?_
  show OwnGo _ _ _ _ (s₁.setTop (mkF m 1 #[.val (.int (16 : Int32)), .unset] [(.int (16 : Int32))]))
  have hc1_1 : (0 : Int) < (16 : Int) := by decide
  refine OwnGo.fwd (fun tq' kq' => XS.ifYes X0.here hx rfl (pc0 := 1) (pc' := 15) rfl (hb hby d3_1) rfl ((if0 _ _).trans (own_blt (by decide) (by decide) hc1_1).2.2.1) (by decide) (by decide) kq') ?_
  show OwnGo _ _ _ _ (s₁.setTop (mkF m 15 #[.val (.int (16 : Int32)), .unset] []))
  refine OwnGo.fwd (fun tq' kq' => XS.bipush X0.here hx rfl (hb hby d3_15) kq') ?_
  show OwnGo _ _ _ _ (s₁.setTop (mkF m 17 #[.val (.int (16 : Int32)), .unset] [(.int (31 : Int32))]))
  refine OwnGo.fwd (fun tq' kq' => XS.istoreN X0.here hx rfl (hb hby d3_17) rfl (l' := #[.val (.int (16 : Int32)), .val (.int (31 : Int32))]) rfl kq') ?_
  show OwnGo _ _ _ _ (s₁.setTop (mkF m 18 #[.val (.int (16 : Int32)), .val (.int (31 : Int32))] []))
  refine OwnGo.fwd (fun tq' kq' => XS.iloadN X0.here hx rfl (hb hby d3_18) rfl kq') ?_
  show OwnGo _ _ _ _ (s₁.setTop (mkF m 19 #[.val (.int (16 : Int32)), .val (.int (31 : Int32))] [(.int (16 : Int32))]))
  refine OwnGo.fwd (fun tq' kq' => X0.ldcwInt hx hown (mvT hZ (hw _ (List.mem_of_getElem? (i := 19) rfl))) (g := (mkF m 19 #[.val (.int (16 : Int32)), .val (.int (31 : Int32))] [(.int (16 : Int32))])) rfl (hb hby d3_19) tq' kq') ?_
  show OwnGo _ _ _ _ (s₁.setTop (mkF m 22 #[.val (.int (16 : Int32)), .val (.int (31 : Int32))] [(.int (65536 : Int32)), (.int (16 : Int32))]))
  have hc22_2 : (16 : Int) < (65536 : Int) := by decide
  refine OwnGo.fwd (fun tq' kq' => XS.icmpYes X0.here hx rfl (pc0 := 22) (pc' := 33) rfl (hb hby d3_22) rfl (own_blt (by decide) (by decide) hc22_2).1 (by decide) (by decide) kq') ?_
  show OwnGo _ _ _ _ (s₁.setTop (mkF m 33 #[.val (.int (16 : Int32)), .val (.int (31 : Int32))] []))
  refine OwnGo.fwd (fun tq' kq' => XS.iloadN X0.here hx rfl (hb hby d3_33) rfl kq') ?_
  show OwnGo _ _ _ _ (s₁.setTop (mkF m 34 #[.val (.int (16 : Int32)), .val (.int (31 : Int32))] [(.int (16 : Int32))]))
  refine OwnGo.fwd (fun tq' kq' => XS.sipush X0.here hx rfl (hb hby d3_34) kq') ?_
  show OwnGo _ _ _ _ (s₁.setTop (mkF m 37 #[.val (.int (16 : Int32)), .val (.int (31 : Int32))] [(.int (256 : Int32)), (.int (16 : Int32))]))
  have hc37_3 : (16 : Int) < (256 : Int) := by decide
  refine OwnGo.fwd (fun tq' kq' => XS.icmpYes X0.here hx rfl (pc0 := 37) (pc' := 48) rfl (hb hby d3_37) rfl (own_blt (by decide) (by decide) hc37_3).1 (by decide) (by decide) kq') ?_
  show OwnGo _ _ _ _ (s₁.setTop (mkF m 48 #[.val (.int (16 : Int32)), .val (.int (31 : Int32))] []))
  refine OwnGo.fwd (fun tq' kq' => XS.iloadN X0.here hx rfl (hb hby d3_48) rfl kq') ?_
  show OwnGo _ _ _ _ (s₁.setTop (mkF m 49 #[.val (.int (16 : Int32)), .val (.int (31 : Int32))] [(.int (16 : Int32))]))
  refine OwnGo.fwd (fun tq' kq' => XS.bipush X0.here hx rfl (hb hby d3_49) kq') ?_
  show OwnGo _ _ _ _ (s₁.setTop (mkF m 51 #[.val (.int (16 : Int32)), .val (.int (31 : Int32))] [(.int (16 : Int32)), (.int (16 : Int32))]))
  have hc51_4 : ¬ ((16 : Int) < (16 : Int)) := by decide
  refine OwnGo.fwd (fun tq' kq' => XS.icmpNo X0.here hx rfl (hb hby d3_51) rfl (own_bnlt (by decide) (by decide) hc51_4).1 kq') ?_
  show OwnGo _ _ _ _ (s₁.setTop (mkF m 54 #[.val (.int (16 : Int32)), .val (.int (31 : Int32))] []))
  refine OwnGo.fwd (fun tq' kq' => XS.iinc X0.here hx rfl (hb hby d3_54) rfl (l' := #[.val (.int (16 : Int32)), .val (.int (27 : Int32))]) rfl kq') ?_
  show OwnGo _ _ _ _ (s₁.setTop (mkF m 57 #[.val (.int (16 : Int32)), .val (.int (27 : Int32))] []))
  refine OwnGo.fwd (fun tq' kq' => XS.iloadN X0.here hx rfl (hb hby d3_57) rfl kq') ?_
  show OwnGo _ _ _ _ (s₁.setTop (mkF m 58 #[.val (.int (16 : Int32)), .val (.int (27 : Int32))] [(.int (16 : Int32))]))
  refine OwnGo.fwd (fun tq' kq' => XS.iconst X0.here hx rfl (hb hby d3_58) kq') ?_
  show OwnGo _ _ _ _ (s₁.setTop (mkF m 59 #[.val (.int (16 : Int32)), .val (.int (27 : Int32))] [(.int (4 : Int32)), (.int (16 : Int32))]))
  refine OwnGo.fwd (fun tq' kq' => XS.iushr X0.here hx rfl (hb hby d3_59) rfl kq') ?_
  show OwnGo _ _ _ _ (s₁.setTop (mkF m 60 #[.val (.int (16 : Int32)), .val (.int (27 : Int32))] [(.int (1 : Int32))]))
  refine OwnGo.fwd (fun tq' kq' => XS.istoreN X0.here hx rfl (hb hby d3_60) rfl (l' := #[.val (.int (1 : Int32)), .val (.int (27 : Int32))]) rfl kq') ?_
  show OwnGo _ _ _ _ (s₁.setTop (mkF m 61 #[.val (.int (1 : Int32)), .val (.int (27 : Int32))] []))
  refine OwnGo.fwd (fun tq' kq' => XS.iloadN X0.here hx rfl (hb hby d3_61) rfl kq') ?_
  show OwnGo _ _ _ _ (s₁.setTop (mkF m 62 #[.val (.int (1 : Int32)), .val (.int (27 : Int32))] [(.int (1 : Int32))]))
  refine OwnGo.fwd (fun tq' kq' => XS.iconst X0.here hx rfl (hb hby d3_62) kq') ?_
  show OwnGo _ _ _ _ (s₁.setTop (mkF m 63 #[.val (.int (1 : Int32)), .val (.int (27 : Int32))] [(.int (4 : Int32)), (.int (1 : Int32))]))
  have hc63_5 : (1 : Int) < (4 : Int) := by decide
  refine OwnGo.fwd (fun tq' kq' => XS.icmpYes X0.here hx rfl (pc0 := 63) (pc' := 73) rfl (hb hby d3_63) rfl (own_blt (by decide) (by decide) hc63_5).1 (by decide) (by decide) kq') ?_
  show OwnGo _ _ _ _ (s₁.setTop (mkF m 73 #[.val (.int (1 : Int32)), .val (.int (27 : Int32))] []))
  refine OwnGo.fwd (fun tq' kq' => XS.iloadN X0.here hx rfl (hb hby d3_73) rfl kq') ?_
  show OwnGo _ _ _ _ (s₁.setTop (mkF m 74 #[.val (.int (1 : Int32)), .val (.int (27 : Int32))] [(.int (27 : Int32))]))
  refine OwnGo.fwd (fun tq' kq' => XS.iloadN X0.here hx rfl (hb hby d3_74) rfl kq') ?_
  show OwnGo _ _ _ _ (s₁.setTop (mkF m 75 #[.val (.int (1 : Int32)), .val (.int (27 : Int32))] [(.int (1 : Int32)), (.int (27 : Int32))]))
  refine OwnGo.fwd (fun tq' kq' => XS.iconst X0.here hx rfl (hb hby d3_75) kq') ?_
  show OwnGo _ _ _ _ (s₁.setTop (mkF m 76 #[.val (.int (1 : Int32)), .val (.int (27 : Int32))] [(.int (1 : Int32)), (.int (1 : Int32)), (.int (27 : Int32))]))
  refine OwnGo.fwd (fun tq' kq' => XS.iushr X0.here hx rfl (hb hby d3_76) rfl kq') ?_
  show OwnGo _ _ _ _ (s₁.setTop (mkF m 77 #[.val (.int (1 : Int32)), .val (.int (27 : Int32))] [(.int (0 : Int32)), (.int (27 : Int32))]))
  refine OwnGo.fwd (fun tq' kq' => XS.isub X0.here hx rfl (hb hby d3_77) rfl kq') ?_
  show OwnGo _ _ _ _ (s₁.setTop (mkF m 78 #[.val (.int (1 : Int32)), .val (.int (27 : Int32))] [(.int (27 : Int32))]))
  exact own_retI X0 hlk hx Bd.returns (hb hby d3_78) (by decide) (by decide) e0 ⟨rfl, N, rfl⟩
theorem d1_0 : decode prog_105_method_1_code 0 = .ok (.aload_n 0, 1) := by decide +kernel
theorem d1_1 : decode prog_105_method_1_code 1 = .ok (.invokespecial 1, 3) := by decide +kernel
theorem d1_4 : decode prog_105_method_1_code 4 = .ok (.aload_n 0, 1) := by decide +kernel
theorem d1_5 : decode prog_105_method_1_code 5 = .ok (.iload_n 1, 1) := by decide +kernel
theorem d1_6 : decode prog_105_method_1_code 6 = .ok (.newarray .int, 2) := by decide +kernel
theorem d1_8 : decode prog_105_method_1_code 8 = .ok (.putfield 7, 3) := by decide +kernel
theorem d1_11 : decode prog_105_method_1_code 11 = .ok (.aload_n 0, 1) := by decide +kernel
theorem d1_12 : decode prog_105_method_1_code 12 = .ok (.iload_n 1, 1) := by decide +kernel
theorem d1_13 : decode prog_105_method_1_code 13 = .ok (.newarray .int, 2) := by decide +kernel
theorem d1_15 : decode prog_105_method_1_code 15 = .ok (.putfield 13, 3) := by decide +kernel
theorem d1_18 : decode prog_105_method_1_code 18 = .ok (.aload_n 0, 1) := by decide +kernel
theorem d1_19 : decode prog_105_method_1_code 19 = .ok (.iload_n 1, 1) := by decide +kernel
theorem d1_20 : decode prog_105_method_1_code 20 = .ok (.invokestatic 16, 3) := by decide +kernel
theorem d1_23 : decode prog_105_method_1_code 23 = .ok (.iconst 1, 1) := by decide +kernel
theorem d1_24 : decode prog_105_method_1_code 24 = .ok (.iadd, 1) := by decide +kernel
theorem d1_25 : decode prog_105_method_1_code 25 = .ok (.putfield 22, 3) := by decide +kernel
theorem d1_28 : decode prog_105_method_1_code 28 = .ok (.return_, 1) := by decide +kernel
theorem pn_1 : plainFor (⟨"com/example/rolestack/rolestack/NumbersById", "<init>", "(I)V"⟩ : MethodName) = true := plainFor_of_name (by first | (simp [plainName, overriddenIn]; done) | decide +kernel)
theorem ef_1 (m : MethodId) (x0 : Addr) (x1 : Int32) : entryFrame m #[(.ref x0), (.int x1)] 2 = mkF m 0 #[.val (.ref x0), .val (.int x1)] [] := by first | (simp [entryFrame, mkF, argsToLocals, Value.category, maxLocals]; done) | rfl
def Q1 (Z : State) (a : Addr) (h0 : Heap) (n0 : Nat) (v : Option Value) (h : Heap) (L : List Loc) : Prop := v = none ∧ Fr n0 L ∧ Keep h0 h [a] ∧ ∃ ia na, h0.size ≤ ia ∧ h0.size ≤ na ∧ own_N Z h n0 a ia na 0 (fun _ => 0) (fun _ => 0)
set_option maxRecDepth 65536 in
set_option maxHeartbeats 40000000 in
theorem rm1 (l : Launch) (Z : State) (a0 : Array Value) (hw : ∀ d ∈ tables_1, d.before a0 Z = true) (ws : List Jvm.Cond) (a : Addr) (h0 : Heap) (n0 : Nat) (Z0 : n0 ≤ h0.size) (E_a : Exa Z h0 a "com/example/rolestack/rolestack/NumbersById") (F_ids_a : Fld Z h0 a "com/example/rolestack/rolestack/NumbersById" "ids" "[I" .null) (F_numbers_a : Fld Z h0 a "com/example/rolestack/rolestack/NumbersById" "numbers" "[I" .null) (F_shift_a : Fld Z h0 a "com/example/rolestack/rolestack/NumbersById" "shift" "I" (.int 0)) (F_size_a : Fld Z h0 a "com/example/rolestack/rolestack/NumbersById" "size" "I" (.int 0)) (g_a : n0 ≤ a) :
    MetFree l (⟨"com/example/rolestack/rolestack/NumbersById", "<init>", "(I)V"⟩ : MethodName) (head1 (Jvm.Cond.code (⟨"com/example/rolestack/rolestack/NumbersById", "<init>", "(I)V"⟩ : MethodName) prog_105_method_1_code 2 none :: ws) ({ frames := 1, cells := 2, slots := 32, locals := 15 } : Room)) (fun arr' U => arr' = #[(.ref a), (.int (16 : Int32))] ∧ Z.Warmed39 U.vm ∧ U.heap = h0) (fun _ _ _ _ _ => True) (fun _ U o U' => ∃ v L, o = .returned v ∧ (Q1 Z a h0 n0) v U'.heap L ∧ FrameEnd U o U' L ({ frames := 1, cells := 2, slots := 32, locals := 15 } : Room).cells ({ frames := 1, cells := 2, slots := 32, locals := 15 } : Room).slots) := by
  refine MetFree.of_bodySF pn_1 hisR ?_
  intro p e s m args below meth c s₁ Bd hml0 hP hK
  obtain ⟨rfl, hZ, hh⟩ := hP
  have hx := Bd.exec
  have hby := Bd.bytes
  have hlk : meth.locks = false := BodyLoose.notSynchronized Bd
  have hml : c.maxLocals = 2 := hml0
  have hown : s.vm.findClass "com/example/rolestack/rolestack/NumbersById" = some m.cls := findClass_of_methodNamed Bd.named
  have hnm := (name_of_methodNamed Bd.named Bd.method).1
  have X0 : Stand p l e ({ frames := 1, cells := 2, slots := 32, locals := 15 } : Room) s m #[(.ref a), (.int (16 : Int32))] below meth c s₁ [] 0 0 := Stand.of_body Bd
  have e0 : s₁.heap = h0 := by rw [← hh, Bd.state]; rfl
  have N := Fr.nil n0
  have Zs := Z0
  change OwnGo p.tables e below (OwnEnd s (Q1 Z a h0 n0) ({ frames := 1, cells := 2, slots := 32, locals := 15 } : Room).cells ({ frames := 1, cells := 2, slots := 32, locals := 15 } : Room).slots) _
  refine OwnGo.fwd (fun tq' kq' => castTop (ef_1 m a (16 : Int32)) kq') ?_
  show OwnGo _ _ _ _ (s₁.setTop (mkF m 0 #[.val (.ref a), .val (.int (16 : Int32))] []))
  have K : Keep h0 h0 [a] := Keep.refl _ _
  refine OwnGo.fwd (fun tq' kq' => XS.aloadN X0.here hx rfl (hb hby d1_0) rfl rfl kq') ?_
  show OwnGo _ _ _ _ (s₁.setTop (mkF m 1 #[.val (.ref a), .val (.int (16 : Int32))] [(.ref a)]))
  obtain ⟨T1, X1, e1, st1⟩ := initO X0 hx hZ hown (hw _ (List.mem_of_getElem? (i := 7) rfl)) (hw _ (List.mem_of_getElem? (i := 8) rfl)) (hw _ (List.mem_of_getElem? (i := 9) rfl)) e0 (g := (mkF m 1 #[.val (.ref a), .val (.int (16 : Int32))] [(.ref a)])) rfl (by rw [hml]; rfl) rfl (hb hby d1_1) (by decide) (W := 0) (by show 2 * 0 + _ ≤ _; exact Nat.le_of_eq rfl) (by decide)
  refine OwnGo.fwd st1 ?_
  show OwnGo _ _ _ _ (T1.setTop (mkF m 4 #[.val (.ref a), .val (.int (16 : Int32))] []))
  refine OwnGo.fwd (fun tq' kq' => XS.aloadN X1.here hx rfl (hb hby d1_4) rfl rfl kq') ?_
  show OwnGo _ _ _ _ (T1.setTop (mkF m 5 #[.val (.ref a), .val (.int (16 : Int32))] [(.ref a)]))
  refine OwnGo.fwd (fun tq' kq' => XS.iloadN X1.here hx rfl (hb hby d1_5) rfl kq') ?_
  show OwnGo _ _ _ _ (T1.setTop (mkF m 6 #[.val (.ref a), .val (.int (16 : Int32))] [(.int (16 : Int32)), (.ref a)]))
  obtain ⟨T2, h2, b2, X2, e2, E2, g2, V2, st2⟩ := own_newI X1 hx hZ (hw _ (List.mem_of_getElem? (i := 10) rfl)) e1 (g := (mkF m 6 #[.val (.ref a), .val (.int (16 : Int32))] [(.int (16 : Int32)), (.ref a)])) rfl (hb hby d1_6) rfl (i := 16) (by decide) (cap := 16) (by decide) (by decide) (by decide) (by decide)
  have ne_a_b2 : a ≠ b2 := Nat.ne_of_lt (Nat.lt_of_lt_of_le E_a.lt (Nat.le_of_eq g2.symm))
  have g_b2 : n0 ≤ b2 := Nat.le_trans Zs (Nat.le_of_eq g2.symm)
  have sz_b2 : h0.size ≤ b2 := Nat.le_trans K.1 (Nat.le_of_eq g2.symm)
  have K := K.ext E2
  have Zs := Nat.le_trans Zs E2.1
  have E_a := E_a.ext E2
  have F_ids_a := F_ids_a.ext E2
  have F_numbers_a := F_numbers_a.ext E2
  have F_shift_a := F_shift_a.ext E2
  have F_size_a := F_size_a.ext E2
  have V_b2 := V2
  refine OwnGo.fwd st2 ?_
  show OwnGo _ _ _ _ (T2.setTop (mkF m 8 #[.val (.ref a), .val (.int (16 : Int32))] [(.ref b2), (.ref a)]))
  obtain ⟨T3, h3, X3, e3, W3, st3⟩ := putF X2 hx hZ hown (host := "") (Or.inl (hw _ (List.mem_of_getElem? (i := 11) rfl))) Via.refl e2 F_ids_a E_a (Or.inr ⟨(hw _ (List.mem_of_getElem? (i := 12) rfl)), rfl, hnm⟩) (hw _ (List.mem_of_getElem? (i := 2) rfl)) (ty := (.array .int)) (by decide) rfl rfl (g := (mkF m 8 #[.val (.ref a), .val (.int (16 : Int32))] [(.ref b2), (.ref a)])) rfl rfl (hb hby d1_8)
  have E_a := E_a.wr W3
  have F_ids_a := F_ids_a.same W3
  have F_numbers_a := F_numbers_a.other W3 (Or.inr (slot_ne (Or.inr (hw _ (List.mem_of_getElem? (i := 14) rfl))) (Or.inr (hw _ (List.mem_of_getElem? (i := 12) rfl))) (by decide) (t := (.array .int)) (t' := (.array .int)) (by decide) (by decide)))
  have F_shift_a := F_shift_a.other W3 (Or.inr (slot_ne (Or.inr (hw _ (List.mem_of_getElem? (i := 21) rfl))) (Or.inr (hw _ (List.mem_of_getElem? (i := 12) rfl))) (by decide) (t := .int) (t' := (.array .int)) (by decide) (by decide)))
  have F_size_a := F_size_a.other W3 (Or.inr (slot_ne (Or.inl (hw _ (List.mem_of_getElem? (i := 28) rfl))) (Or.inr (hw _ (List.mem_of_getElem? (i := 12) rfl))) (by decide) (t := .int) (t' := (.array .int)) (by decide) (by decide)))
  have V_b2 := V_b2.other W3 (Ne.symm ne_a_b2)
  have K := K.wr W3 (Or.inl (List.mem_of_getElem? (i := 0) rfl))
  have Zs := Nat.le_trans Zs (Keep.of_wr W3).1
  have N := Fr.snoc X3 N g_a
  refine OwnGo.fwd st3 ?_
  show OwnGo _ _ _ _ (T3.setTop (mkF m 11 #[.val (.ref a), .val (.int (16 : Int32))] []))
  refine OwnGo.fwd (fun tq' kq' => XS.aloadN X3.here hx rfl (hb hby d1_11) rfl rfl kq') ?_
  show OwnGo _ _ _ _ (T3.setTop (mkF m 12 #[.val (.ref a), .val (.int (16 : Int32))] [(.ref a)]))
  refine OwnGo.fwd (fun tq' kq' => XS.iloadN X3.here hx rfl (hb hby d1_12) rfl kq') ?_
  show OwnGo _ _ _ _ (T3.setTop (mkF m 13 #[.val (.ref a), .val (.int (16 : Int32))] [(.int (16 : Int32)), (.ref a)]))
  obtain ⟨T4, h4, b4, X4, e4, E4, g4, V4, st4⟩ := own_newI X3 hx hZ (hw _ (List.mem_of_getElem? (i := 10) rfl)) e3 (g := (mkF m 13 #[.val (.ref a), .val (.int (16 : Int32))] [(.int (16 : Int32)), (.ref a)])) rfl (hb hby d1_13) rfl (i := 16) (by decide) (cap := 16) (by decide) (by decide) (by decide) (by decide)
  have ne_a_b4 : a ≠ b4 := Nat.ne_of_lt (Nat.lt_of_lt_of_le E_a.lt (Nat.le_of_eq g4.symm))
  have ne_b2_b4 : b2 ≠ b4 := Nat.ne_of_lt (Nat.lt_of_lt_of_le V_b2.lt (Nat.le_of_eq g4.symm))
  have g_b4 : n0 ≤ b4 := Nat.le_trans Zs (Nat.le_of_eq g4.symm)
  have sz_b4 : h0.size ≤ b4 := Nat.le_trans K.1 (Nat.le_of_eq g4.symm)
  have K := K.ext E4
  have Zs := Nat.le_trans Zs E4.1
  have E_a := E_a.ext E4
  have F_ids_a := F_ids_a.ext E4
  have F_numbers_a := F_numbers_a.ext E4
  have F_shift_a := F_shift_a.ext E4
  have F_size_a := F_size_a.ext E4
  have V_b2 := V_b2.ext E4
  have V_b4 := V4
  refine OwnGo.fwd st4 ?_
  show OwnGo _ _ _ _ (T4.setTop (mkF m 15 #[.val (.ref a), .val (.int (16 : Int32))] [(.ref b4), (.ref a)]))
  obtain ⟨T5, h5, X5, e5, W5, st5⟩ := putF X4 hx hZ hown (host := "") (Or.inl (hw _ (List.mem_of_getElem? (i := 13) rfl))) Via.refl e4 F_numbers_a E_a (Or.inr ⟨(hw _ (List.mem_of_getElem? (i := 14) rfl)), rfl, hnm⟩) (hw _ (List.mem_of_getElem? (i := 2) rfl)) (ty := (.array .int)) (by decide) rfl rfl (g := (mkF m 15 #[.val (.ref a), .val (.int (16 : Int32))] [(.ref b4), (.ref a)])) rfl rfl (hb hby d1_15)
  have E_a := E_a.wr W5
  have F_ids_a := F_ids_a.other W5 (Or.inr (slot_ne (Or.inr (hw _ (List.mem_of_getElem? (i := 12) rfl))) (Or.inr (hw _ (List.mem_of_getElem? (i := 14) rfl))) (by decide) (t := (.array .int)) (t' := (.array .int)) (by decide) (by decide)))
  have F_numbers_a := F_numbers_a.same W5
  have F_shift_a := F_shift_a.other W5 (Or.inr (slot_ne (Or.inr (hw _ (List.mem_of_getElem? (i := 21) rfl))) (Or.inr (hw _ (List.mem_of_getElem? (i := 14) rfl))) (by decide) (t := .int) (t' := (.array .int)) (by decide) (by decide)))
  have F_size_a := F_size_a.other W5 (Or.inr (slot_ne (Or.inl (hw _ (List.mem_of_getElem? (i := 28) rfl))) (Or.inr (hw _ (List.mem_of_getElem? (i := 14) rfl))) (by decide) (t := .int) (t' := (.array .int)) (by decide) (by decide)))
  have V_b2 := V_b2.other W5 (Ne.symm ne_a_b2)
  have V_b4 := V_b4.other W5 (Ne.symm ne_a_b4)
  have K := K.wr W5 (Or.inl (List.mem_of_getElem? (i := 0) rfl))
  have Zs := Nat.le_trans Zs (Keep.of_wr W5).1
  have N := Fr.snoc X5 N g_a
  refine OwnGo.fwd st5 ?_
  show OwnGo _ _ _ _ (T5.setTop (mkF m 18 #[.val (.ref a), .val (.int (16 : Int32))] []))
  refine OwnGo.fwd (fun tq' kq' => XS.aloadN X5.here hx rfl (hb hby d1_18) rfl rfl kq') ?_
  show OwnGo _ _ _ _ (T5.setTop (mkF m 19 #[.val (.ref a), .val (.int (16 : Int32))] [(.ref a)]))
  refine OwnGo.fwd (fun tq' kq' => XS.iloadN X5.here hx rfl (hb hby d1_19) rfl kq') ?_
  show OwnGo _ _ _ _ (T5.setTop (mkF m 20 #[.val (.ref a), .val (.int (16 : Int32))] [(.int (16 : Int32)), (.ref a)]))
  obtain ⟨_, _, ⟨T6, L6, k6, n6⟩, -, X6, ⟨Lc6, hQ6, l6, y6, z6⟩, st6⟩ := Jvm.LawKit.callS X5 hx (y := (⟨"java/lang/Integer", "numberOfLeadingZeros", "(I)I"⟩ : MethodName)) hown (mvT hZ (hw _ (List.mem_of_getElem? (i := 15) rfl))) (mvT hZ (hw _ (List.mem_of_getElem? (i := 16) rfl))) (mvT hZ (hw _ (List.mem_of_getElem? (i := 17) rfl))) (mvT hZ (hw _ (List.mem_of_getElem? (i := 18) rfl))) (by decide) (backOf (W := 1) (rm3 l Z a0 hw []  h5 n0 Zs) hZ (hw _ (List.mem_of_getElem? (i := 18) rfl)) (hw _ (List.mem_of_getElem? (i := 17) rfl)) (by decide) (by decide)) (g := (mkF m 20 #[.val (.ref a), .val (.int (16 : Int32))] [(.int (16 : Int32)), (.ref a)])) rfl (by rw [hml]; rfl) (argsL := [(.int (16 : Int32))]) (rest := [(.ref a)]) (lenOf pd_2 rfl) rfl (by show 2 * 0 + _ ≤ _; exact Nat.le_of_eq rfl) (hb hby d1_20) (fun _ _ => ⟨rfl, e5, (by decide : 2 + 0 ≤ _), (by decide : 32 + 0 ≤ _)⟩)
  dsimp only [Pt.U, Pt.locs, Pt.cells, Pt.slots] at X6 l6 y6 z6 st6 hQ6
  subst l6 y6 z6
  obtain ⟨rfl, N6q, e6⟩ := hQ6
  have N := Fr.app N N6q
  refine OwnGo.fwd st6 ?_
  show OwnGo _ _ _ _ (T6.setTop (mkF m 23 #[.val (.ref a), .val (.int (16 : Int32))] [(.int (27 : Int32)), (.ref a)]))
  refine OwnGo.fwd (fun tq' kq' => XS.iconst X6.here hx rfl (hb hby d1_23) kq') ?_
  show OwnGo _ _ _ _ (T6.setTop (mkF m 24 #[.val (.ref a), .val (.int (16 : Int32))] [(.int (1 : Int32)), (.int (27 : Int32)), (.ref a)]))
  refine OwnGo.fwd (fun tq' kq' => XS.iadd X6.here hx rfl (hb hby d1_24) rfl kq') ?_
  show OwnGo _ _ _ _ (T6.setTop (mkF m 25 #[.val (.ref a), .val (.int (16 : Int32))] [(.int (28 : Int32)), (.ref a)]))
  obtain ⟨T7, h7, X7, e7, W7, st7⟩ := putF X6 hx hZ hown (host := "") (Or.inl (hw _ (List.mem_of_getElem? (i := 20) rfl))) Via.refl e6 F_shift_a E_a (Or.inr ⟨(hw _ (List.mem_of_getElem? (i := 21) rfl)), rfl, hnm⟩) (hw _ (List.mem_of_getElem? (i := 2) rfl)) (ty := .int) (by decide) rfl rfl (g := (mkF m 25 #[.val (.ref a), .val (.int (16 : Int32))] [(.int (28 : Int32)), (.ref a)])) rfl rfl (hb hby d1_25)
  have E_a := E_a.wr W7
  have F_ids_a := F_ids_a.other W7 (Or.inr (slot_ne (Or.inr (hw _ (List.mem_of_getElem? (i := 12) rfl))) (Or.inr (hw _ (List.mem_of_getElem? (i := 21) rfl))) (by decide) (t := (.array .int)) (t' := .int) (by decide) (by decide)))
  have F_numbers_a := F_numbers_a.other W7 (Or.inr (slot_ne (Or.inr (hw _ (List.mem_of_getElem? (i := 14) rfl))) (Or.inr (hw _ (List.mem_of_getElem? (i := 21) rfl))) (by decide) (t := (.array .int)) (t' := .int) (by decide) (by decide)))
  have F_shift_a := F_shift_a.same W7
  have F_size_a := F_size_a.other W7 (Or.inr (slot_ne (Or.inl (hw _ (List.mem_of_getElem? (i := 28) rfl))) (Or.inr (hw _ (List.mem_of_getElem? (i := 21) rfl))) (by decide) (t := .int) (t' := .int) (by decide) (by decide)))
  have V_b2 := V_b2.other W7 (Ne.symm ne_a_b2)
  have V_b4 := V_b4.other W7 (Ne.symm ne_a_b4)
  have K := K.wr W7 (Or.inl (List.mem_of_getElem? (i := 0) rfl))
  have Zs := Nat.le_trans Zs (Keep.of_wr W7).1
  have N := Fr.snoc X7 N g_a
  refine OwnGo.fwd st7 ?_
  show OwnGo _ _ _ _ (T7.setTop (mkF m 28 #[.val (.ref a), .val (.int (16 : Int32))] []))
  exact own_retV X7 hlk hx Bd.returns (hb hby d1_28) (by decide) (by decide) e7 ⟨rfl, N, K, b2, b4, sz_b2, sz_b4, E_a, F_ids_a, F_numbers_a, F_shift_a, F_size_a, V_b2, V_b4, ne_a_b2, ne_a_b4, ne_b2_b4, g_a, g_b2, g_b4⟩
theorem d6_0 : decode prog_105_method_7_code 0 = .ok (.iload_n 1, 1) := by decide +kernel
theorem d6_1 : decode prog_105_method_7_code 1 = .ok (.ldc 52, 2) := by decide +kernel
theorem d6_3 : decode prog_105_method_7_code 3 = .ok (.imul, 1) := by decide +kernel
theorem d6_4 : decode prog_105_method_7_code 4 = .ok (.aload_n 0, 1) := by decide +kernel
theorem d6_5 : decode prog_105_method_7_code 5 = .ok (.getfield 22, 3) := by decide +kernel
theorem d6_8 : decode prog_105_method_7_code 8 = .ok (.iushr, 1) := by decide +kernel
theorem d6_9 : decode prog_105_method_7_code 9 = .ok (.ireturn, 1) := by decide +kernel
theorem pn_6 : plainFor (⟨"com/example/rolestack/rolestack/NumbersById", "hash", "(I)I"⟩ : MethodName) = true := plainFor_of_name (by first | (simp [plainName, overriddenIn]; done) | decide +kernel)
theorem ef_6 (m : MethodId) (x0 : Addr) (x1 : Int32) : entryFrame m #[(.ref x0), (.int x1)] 2 = mkF m 0 #[.val (.ref x0), .val (.int x1)] [] := by first | (simp [entryFrame, mkF, argsToLocals, Value.category, maxLocals]; done) | rfl
def Q6 (Z : State) (a : Addr) (x : Int32) (h0 : Heap) (n0 : Nat) (v : Option Value) (h : Heap) (L : List Loc) : Prop := v = some (.int (own_hv x)) ∧ Fr n0 L ∧ h = h0
set_option maxRecDepth 65536 in
set_option maxHeartbeats 40000000 in
theorem rm6 (l : Launch) (Z : State) (a0 : Array Value) (hw : ∀ d ∈ tables_1, d.before a0 Z = true) (ws : List Jvm.Cond) (a : Addr) (x : Int32) (h0 : Heap) (n0 : Nat) (Z0 : n0 ≤ h0.size) (F_shift_a : Fld Z h0 a "com/example/rolestack/rolestack/NumbersById" "shift" "I" (.int 28)) :
    MetFree l (⟨"com/example/rolestack/rolestack/NumbersById", "hash", "(I)I"⟩ : MethodName) (head1 (Jvm.Cond.code (⟨"com/example/rolestack/rolestack/NumbersById", "hash", "(I)I"⟩ : MethodName) prog_105_method_7_code 2 (some .int) :: ws) ({ frames := 0, cells := 0, slots := 0, locals := 0 } : Room)) (fun arr' U => arr' = #[(.ref a), (.int x)] ∧ Z.Warmed39 U.vm ∧ U.heap = h0) (fun _ _ _ _ _ => True) (fun _ U o U' => ∃ v L, o = .returned v ∧ (Q6 Z a x h0 n0) v U'.heap L ∧ FrameEnd U o U' L ({ frames := 0, cells := 0, slots := 0, locals := 0 } : Room).cells ({ frames := 0, cells := 0, slots := 0, locals := 0 } : Room).slots) := by
  refine MetFree.of_bodySF pn_6 hisR ?_
  intro p e s m args below meth c s₁ Bd hml0 hP hK
  obtain ⟨rfl, hZ, hh⟩ := hP
  have hx := Bd.exec
  have hby := Bd.bytes
  have hlk : meth.locks = false := BodyLoose.notSynchronized Bd
  have hml : c.maxLocals = 2 := hml0
  have hown : s.vm.findClass "com/example/rolestack/rolestack/NumbersById" = some m.cls := findClass_of_methodNamed Bd.named
  have hnm := (name_of_methodNamed Bd.named Bd.method).1
  have X0 : Stand p l e ({ frames := 0, cells := 0, slots := 0, locals := 0 } : Room) s m #[(.ref a), (.int x)] below meth c s₁ [] 0 0 := Stand.of_body Bd
  have e0 : s₁.heap = h0 := by rw [← hh, Bd.state]; rfl
  have N := Fr.nil n0
  have Zs := Z0
  change OwnGo p.tables e below (OwnEnd s (Q6 Z a x h0 n0) ({ frames := 0, cells := 0, slots := 0, locals := 0 } : Room).cells ({ frames := 0, cells := 0, slots := 0, locals := 0 } : Room).slots) _
  refine OwnGo.fwd (fun tq' kq' => castTop (ef_6 m a x) kq') ?_
  show OwnGo _ _ _ _ (s₁.setTop (mkF m 0 #[.val (.ref a), .val (.int x)] []))
  refine OwnGo.fwd (fun tq' kq' => XS.iloadN X0.here hx rfl (hb hby d6_0) rfl kq') ?_
  show OwnGo _ _ _ _ (s₁.setTop (mkF m 1 #[.val (.ref a), .val (.int x)] [(.int x)]))
  refine OwnGo.fwd (fun tq' kq' => X0.ldcInt hx hown (mvT hZ (hw _ (List.mem_of_getElem? (i := 38) rfl))) (g := (mkF m 1 #[.val (.ref a), .val (.int x)] [(.int x)])) rfl (hb hby d6_1) tq' kq') ?_
  show OwnGo _ _ _ _ (s₁.setTop (mkF m 3 #[.val (.ref a), .val (.int x)] [(.int (-1640531527 : Int32)), (.int x)]))
  refine OwnGo.fwd (fun tq' kq' => XS.imul X0.here hx rfl (hb hby d6_3) rfl kq') ?_
  show OwnGo _ _ _ _ (s₁.setTop (mkF m 4 #[.val (.ref a), .val (.int x)] [(.int (x * (-1640531527 : Int32)))]))
  refine OwnGo.fwd (fun tq' kq' => XS.aloadN X0.here hx rfl (hb hby d6_4) rfl rfl kq') ?_
  show OwnGo _ _ _ _ (s₁.setTop (mkF m 5 #[.val (.ref a), .val (.int x)] [(.ref a), (.int (x * (-1640531527 : Int32)))]))
  obtain ⟨T1, X1, e1, st1⟩ := getF X0 hx hZ hown (host := "") (Or.inl (hw _ (List.mem_of_getElem? (i := 20) rfl))) Via.refl e0 F_shift_a (g := (mkF m 5 #[.val (.ref a), .val (.int x)] [(.ref a), (.int (x * (-1640531527 : Int32)))])) rfl rfl (hb hby d6_5)
  refine OwnGo.fwd st1 ?_
  show OwnGo _ _ _ _ (T1.setTop (mkF m 8 #[.val (.ref a), .val (.int x)] [(.int (28 : Int32)), (.int (x * (-1640531527 : Int32)))]))
  refine OwnGo.fwd (fun tq' kq' => XS.iushr X1.here hx rfl (hb hby d6_8) rfl kq') ?_
  show OwnGo _ _ _ _ (T1.setTop (mkF m 9 #[.val (.ref a), .val (.int x)] [(.int (((x * (-1640531527 : Int32)).toUInt32 >>> ((28 : Int32) &&& 31).toUInt32).toInt32))]))
  exact own_retI X1 hlk hx Bd.returns (hb hby d6_9) (by decide) (by decide) e1 ⟨rfl, N, rfl⟩
theorem d5_0 : decode prog_105_method_4_code 0 = .ok (.aload_n 0, 1) := by decide +kernel
theorem d5_1 : decode prog_105_method_4_code 1 = .ok (.getfield 7, 3) := by decide +kernel
theorem d5_4 : decode prog_105_method_4_code 4 = .ok (.arraylength, 1) := by decide +kernel
theorem d5_5 : decode prog_105_method_4_code 5 = .ok (.iconst 1, 1) := by decide +kernel
theorem d5_6 : decode prog_105_method_4_code 6 = .ok (.isub, 1) := by decide +kernel
theorem d5_7 : decode prog_105_method_4_code 7 = .ok (.istore_n 3, 1) := by decide +kernel
theorem d5_8 : decode prog_105_method_4_code 8 = .ok (.aload_n 0, 1) := by decide +kernel
theorem d5_9 : decode prog_105_method_4_code 9 = .ok (.iload_n 1, 1) := by decide +kernel
theorem d5_10 : decode prog_105_method_4_code 10 = .ok (.invokevirtual 29, 3) := by decide +kernel
theorem d5_13 : decode prog_105_method_4_code 13 = .ok (.istore 4, 2) := by decide +kernel
theorem d5_15 : decode prog_105_method_4_code 15 = .ok (.aload_n 0, 1) := by decide +kernel
theorem d5_16 : decode prog_105_method_4_code 16 = .ok (.getfield 7, 3) := by decide +kernel
theorem d5_19 : decode prog_105_method_4_code 19 = .ok (.iload 4, 2) := by decide +kernel
theorem d5_21 : decode prog_105_method_4_code 21 = .ok (.iaload, 1) := by decide +kernel
theorem d5_22 : decode prog_105_method_4_code 22 = .ok (.iload_n 1, 1) := by decide +kernel
theorem d5_23 : decode prog_105_method_4_code 23 = .ok (.if_icmp .eq 24, 3) := by decide +kernel
theorem d5_26 : decode prog_105_method_4_code 26 = .ok (.aload_n 0, 1) := by decide +kernel
theorem d5_27 : decode prog_105_method_4_code 27 = .ok (.getfield 7, 3) := by decide +kernel
theorem d5_30 : decode prog_105_method_4_code 30 = .ok (.iload 4, 2) := by decide +kernel
theorem d5_32 : decode prog_105_method_4_code 32 = .ok (.iaload, 1) := by decide +kernel
theorem d5_33 : decode prog_105_method_4_code 33 = .ok (.ifCond .eq 14, 3) := by decide +kernel
theorem d5_36 : decode prog_105_method_4_code 36 = .ok (.iload 4, 2) := by decide +kernel
theorem d5_38 : decode prog_105_method_4_code 38 = .ok (.iconst 1, 1) := by decide +kernel
theorem d5_39 : decode prog_105_method_4_code 39 = .ok (.iadd, 1) := by decide +kernel
theorem d5_40 : decode prog_105_method_4_code 40 = .ok (.iload_n 3, 1) := by decide +kernel
theorem d5_41 : decode prog_105_method_4_code 41 = .ok (.iand, 1) := by decide +kernel
theorem d5_42 : decode prog_105_method_4_code 42 = .ok (.istore 4, 2) := by decide +kernel
theorem d5_44 : decode prog_105_method_4_code 44 = .ok (.goto (-29), 3) := by decide +kernel
theorem d5_47 : decode prog_105_method_4_code 47 = .ok (.aload_n 0, 1) := by decide +kernel
theorem d5_48 : decode prog_105_method_4_code 48 = .ok (.getfield 7, 3) := by decide +kernel
theorem d5_51 : decode prog_105_method_4_code 51 = .ok (.iload 4, 2) := by decide +kernel
theorem d5_53 : decode prog_105_method_4_code 53 = .ok (.iaload, 1) := by decide +kernel
theorem d5_54 : decode prog_105_method_4_code 54 = .ok (.ifCond .ne 21, 3) := by decide +kernel
theorem d5_57 : decode prog_105_method_4_code 57 = .ok (.aload_n 0, 1) := by decide +kernel
theorem d5_58 : decode prog_105_method_4_code 58 = .ok (.getfield 7, 3) := by decide +kernel
theorem d5_61 : decode prog_105_method_4_code 61 = .ok (.iload 4, 2) := by decide +kernel
theorem d5_63 : decode prog_105_method_4_code 63 = .ok (.iload_n 1, 1) := by decide +kernel
theorem d5_64 : decode prog_105_method_4_code 64 = .ok (.iastore, 1) := by decide +kernel
theorem d5_65 : decode prog_105_method_4_code 65 = .ok (.aload_n 0, 1) := by decide +kernel
theorem d5_66 : decode prog_105_method_4_code 66 = .ok (.dup, 1) := by decide +kernel
theorem d5_67 : decode prog_105_method_4_code 67 = .ok (.getfield 26, 3) := by decide +kernel
theorem d5_70 : decode prog_105_method_4_code 70 = .ok (.iconst 1, 1) := by decide +kernel
theorem d5_71 : decode prog_105_method_4_code 71 = .ok (.iadd, 1) := by decide +kernel
theorem d5_72 : decode prog_105_method_4_code 72 = .ok (.putfield 26, 3) := by decide +kernel
theorem d5_75 : decode prog_105_method_4_code 75 = .ok (.aload_n 0, 1) := by decide +kernel
theorem d5_76 : decode prog_105_method_4_code 76 = .ok (.getfield 13, 3) := by decide +kernel
theorem d5_79 : decode prog_105_method_4_code 79 = .ok (.iload 4, 2) := by decide +kernel
theorem d5_81 : decode prog_105_method_4_code 81 = .ok (.iload_n 2, 1) := by decide +kernel
theorem d5_82 : decode prog_105_method_4_code 82 = .ok (.iastore, 1) := by decide +kernel
theorem d5_83 : decode prog_105_method_4_code 83 = .ok (.return_, 1) := by decide +kernel
theorem pn_5 : plainFor (⟨"com/example/rolestack/rolestack/NumbersById", "put", "(II)V"⟩ : MethodName) = true := plainFor_of_name (by first | (simp [plainName, overriddenIn]; done) | decide +kernel)
theorem ef_5 (m : MethodId) (x0 : Addr) (x1 : Int32) (x2 : Int32) : entryFrame m #[(.ref x0), (.int x1), (.int x2)] 5 = mkF m 0 #[.val (.ref x0), .val (.int x1), .val (.int x2), .unset, .unset] [] := by first | (simp [entryFrame, mkF, argsToLocals, Value.category, maxLocals]; done) | rfl
def Q5 (Z : State) (a : Addr) (ia : Addr) (na : Addr) (n : Nat) (f : Nat → Int32) (g : Nat → Int32) (x : Int32) (y : Int32) (h0 : Heap) (n0 : Nat) (v : Option Value) (h : Heap) (L : List Loc) : Prop := v = none ∧ Fr n0 L ∧ Keep h0 h [a, ia, na] ∧ ∃ n' f' g', own_N Z h n0 a ia na n' f' g' ∧ own_put f n x f' n'
set_option maxRecDepth 65536 in
set_option maxHeartbeats 40000000 in
theorem rm5 (l : Launch) (Z : State) (a0 : Array Value) (hw : ∀ d ∈ tables_1, d.before a0 Z = true) (ws : List Jvm.Cond) (a : Addr) (ia : Addr) (na : Addr) (n : Nat) (f : Nat → Int32) (g : Nat → Int32) (x : Int32) (y : Int32) (h0 : Heap) (n0 : Nat) (Z0 : n0 ≤ h0.size) (HA : own_N Z h0 n0 a ia na n f g) (HV : own_Inv f n) (hn : n < 16) (hx0 : x ≠ 0) :
    MetFree l (⟨"com/example/rolestack/rolestack/NumbersById", "put", "(II)V"⟩ : MethodName) (head1 (Jvm.Cond.code (⟨"com/example/rolestack/rolestack/NumbersById", "put", "(II)V"⟩ : MethodName) prog_105_method_4_code 5 none :: ws) ({ frames := 1, cells := 0, slots := 0, locals := 14 } : Room)) (fun arr' U => arr' = #[(.ref a), (.int x), (.int y)] ∧ Z.Warmed39 U.vm ∧ U.heap = h0) (fun _ _ _ _ _ => True) (fun _ U o U' => ∃ v L, o = .returned v ∧ (Q5 Z a ia na n f g x y h0 n0) v U'.heap L ∧ FrameEnd U o U' L ({ frames := 1, cells := 0, slots := 0, locals := 14 } : Room).cells ({ frames := 1, cells := 0, slots := 0, locals := 14 } : Room).slots) := by
  refine MetFree.of_bodySF pn_5 hisR ?_
  intro p e s m args below meth c s₁ Bd hml0 hP hK
  obtain ⟨rfl, hZ, hh⟩ := hP
  have hx := Bd.exec
  have hby := Bd.bytes
  have hlk : meth.locks = false := BodyLoose.notSynchronized Bd
  have hml : c.maxLocals = 5 := hml0
  have hown : s.vm.findClass "com/example/rolestack/rolestack/NumbersById" = some m.cls := findClass_of_methodNamed Bd.named
  have hnm := (name_of_methodNamed Bd.named Bd.method).1
  have X0 : Stand p l e ({ frames := 1, cells := 0, slots := 0, locals := 14 } : Room) s m #[(.ref a), (.int x), (.int y)] below meth c s₁ [] 0 0 := Stand.of_body Bd
  have e0 : s₁.heap = h0 := by rw [← hh, Bd.state]; rfl
  have N := Fr.nil n0
  have Zs := Z0
  change OwnGo p.tables e below (OwnEnd s (Q5 Z a ia na n f g x y h0 n0) ({ frames := 1, cells := 0, slots := 0, locals := 14 } : Room).cells ({ frames := 1, cells := 0, slots := 0, locals := 14 } : Room).slots) _
  refine OwnGo.fwd (fun tq' kq' => castTop (ef_5 m a x y) kq') ?_
  show OwnGo _ _ _ _ (s₁.setTop (mkF m 0 #[.val (.ref a), .val (.int x), .val (.int y), .unset, .unset] []))
  obtain ⟨E_a, F_ids_a, F_numbers_a, F_shift_a, F_size_a, V_ia, V_na, ne_a_ia, ne_a_na, ne_ia_na, g_a, g_ia, g_na⟩ := HA
  have hi_n : (Int32.ofNat n).toInt = (n : Int) := own_ofNat (by omega)
  have K : Keep h0 h0 [a, ia, na] := Keep.refl _ _
  refine OwnGo.fwd (fun tq' kq' => XS.aloadN X0.here hx rfl (hb hby d5_0) rfl rfl kq') ?_
  show OwnGo _ _ _ _ (s₁.setTop (mkF m 1 #[.val (.ref a), .val (.int x), .val (.int y), .unset, .unset] [(.ref a)]))
  obtain ⟨T1, X1, e1, st1⟩ := getF X0 hx hZ hown (host := "") (Or.inl (hw _ (List.mem_of_getElem? (i := 11) rfl))) Via.refl e0 F_ids_a (g := (mkF m 1 #[.val (.ref a), .val (.int x), .val (.int y), .unset, .unset] [(.ref a)])) rfl rfl (hb hby d5_1)
  refine OwnGo.fwd st1 ?_
  show OwnGo _ _ _ _ (T1.setTop (mkF m 4 #[.val (.ref a), .val (.int x), .val (.int y), .unset, .unset] [(.ref ia)]))
  refine OwnGo.fwd (fun tq' kq' => own_len X1 hx hZ e1 V_ia (g := (mkF m 4 #[.val (.ref a), .val (.int x), .val (.int y), .unset, .unset] [(.ref ia)])) rfl rfl (hb hby d5_4) tq' kq') ?_
  show OwnGo _ _ _ _ (T1.setTop (mkF m 5 #[.val (.ref a), .val (.int x), .val (.int y), .unset, .unset] [(.int (Int32.ofNat 16))]))
  refine OwnGo.fwd (fun tq' kq' => XS.iconst X1.here hx rfl (hb hby d5_5) kq') ?_
  show OwnGo _ _ _ _ (T1.setTop (mkF m 6 #[.val (.ref a), .val (.int x), .val (.int y), .unset, .unset] [(.int (1 : Int32)), (.int (Int32.ofNat 16))]))
  refine OwnGo.fwd (fun tq' kq' => XS.isub X1.here hx rfl (hb hby d5_6) rfl kq') ?_
  show OwnGo _ _ _ _ (T1.setTop (mkF m 7 #[.val (.ref a), .val (.int x), .val (.int y), .unset, .unset] [(.int (15 : Int32))]))
  refine OwnGo.fwd (fun tq' kq' => XS.istoreN X1.here hx rfl (hb hby d5_7) rfl (l' := #[.val (.ref a), .val (.int x), .val (.int y), .val (.int (15 : Int32)), .unset]) rfl kq') ?_
  show OwnGo _ _ _ _ (T1.setTop (mkF m 8 #[.val (.ref a), .val (.int x), .val (.int y), .val (.int (15 : Int32)), .unset] []))
  refine OwnGo.fwd (fun tq' kq' => XS.aloadN X1.here hx rfl (hb hby d5_8) rfl rfl kq') ?_
  show OwnGo _ _ _ _ (T1.setTop (mkF m 9 #[.val (.ref a), .val (.int x), .val (.int y), .val (.int (15 : Int32)), .unset] [(.ref a)]))
  refine OwnGo.fwd (fun tq' kq' => XS.iloadN X1.here hx rfl (hb hby d5_9) rfl kq') ?_
  show OwnGo _ _ _ _ (T1.setTop (mkF m 10 #[.val (.ref a), .val (.int x), .val (.int y), .val (.int (15 : Int32)), .unset] [(.int x), (.ref a)]))
  obtain ⟨cq2, q2, q2'⟩ := E_a.cell
  obtain ⟨_, _, ⟨T2, L2, k2, n2⟩, -, X2, ⟨Lc2, hQ2, l2, y2, z2⟩, st2⟩ := X1.privateBack hx (y := (⟨"com/example/rolestack/rolestack/NumbersById", "hash", "(I)I"⟩ : MethodName)) hown (mvT hZ (hw _ (List.mem_of_getElem? (i := 34) rfl))) (mvT hZ (hw _ (List.mem_of_getElem? (i := 35) rfl))) (own_selp (mvT hZ (hw _ (List.mem_of_getElem? (i := 2) rfl))) (Cond.privateMethod_at (mvP hZ (hw _ (List.mem_of_getElem? (i := 36) rfl)) (args := #[]))) (mvT hZ (hw _ (List.mem_of_getElem? (i := 35) rfl))) (by decide)) (Cond.privateMethod_at (mvP hZ (hw _ (List.mem_of_getElem? (i := 36) rfl)) (args := #[]))) (mvT hZ (hw _ (List.mem_of_getElem? (i := 37) rfl))) (by decide) (backOf (W := 0) (rm6 l Z a0 hw [] a x h0 n0 Zs F_shift_a) hZ (hw _ (List.mem_of_getElem? (i := 37) rfl)) (hw _ (List.mem_of_getElem? (i := 3) rfl)) (by decide) (by decide)) (g := (mkF m 10 #[.val (.ref a), .val (.int x), .val (.int y), .val (.int (15 : Int32)), .unset] [(.int x), (.ref a)])) rfl (by rw [hml]; rfl) (Steps.refl _) (a := a) (by rw [e1]; exact q2) q2' (argsL := [(.int x)]) (rest := []) (lenOf pd_2 rfl) rfl (by show 2 * 0 + _ ≤ _; exact Nat.le_of_eq rfl) (hb hby d5_10) (fun _ _ => ⟨rfl, e1, (by decide : 0 + 0 ≤ _), (by decide : 0 + 0 ≤ _)⟩)
  dsimp only [Pt.U, Pt.locs, Pt.cells, Pt.slots] at X2 l2 y2 z2 st2 hQ2
  subst l2 y2 z2
  obtain ⟨rfl, N2q, e2⟩ := hQ2
  have N := Fr.app N N2q
  refine OwnGo.thru st2 ?_
  show OwnGo _ _ _ _ (T2.setTop (mkF m 13 #[.val (.ref a), .val (.int x), .val (.int y), .val (.int (15 : Int32)), .unset] [(.int (own_hv x))]))
  obtain ⟨hv, hv_hv⟩ : ∃ q : Int32, q = (own_hv x) := ⟨_, rfl⟩
  rw [← hv_hv]
  show OwnGo _ _ _ _ (T2.setTop (mkF m 13 #[.val (.ref a), .val (.int x), .val (.int y), .val (.int (15 : Int32)), .unset] [(.int hv)]))
  have hhv := own_hv_at x
  rw [← hv_hv] at hhv
  have K47 : ∀ (T1 : State) (L1 : List Loc) (k : Nat) (pl : Int32), Stand p l e ({ frames := 1, cells := 0, slots := 0, locals := 14 } : Room) s m #[(.ref a), (.int x), (.int y)] below meth c T1 L1 0 0 → T1.heap = h0 → Fr n0 L1 → k < 16 → pl.toInt = ((own_hs x + k) % 16 : Nat) → (∀ j, j < k → f ((own_hs x + j) % 16) ≠ x ∧ f ((own_hs x + j) % 16) ≠ 0) → (f ((own_hs x + k) % 16) = x ∨ f ((own_hs x + k) % 16) = 0) → OwnGo p.tables e below (OwnEnd s (Q5 Z a ia na n f g x y h0 n0) ({ frames := 1, cells := 0, slots := 0, locals := 14 } : Room).cells ({ frames := 1, cells := 0, slots := 0, locals := 14 } : Room).slots) (T1.setTop (mkF m 47 #[.val (.ref a), .val (.int x), .val (.int y), .val (.int (15 : Int32)), .val (.int pl)] [])) := by
    intro T1 L1 k pl X1 e1 N hk hpl hlo hend
    show OwnGo _ _ _ _ (T1.setTop (mkF m 47 #[.val (.ref a), .val (.int x), .val (.int y), .val (.int (15 : Int32)), .val (.int pl)] []))
    refine OwnGo.fwd (fun tq' kq' => XS.aloadN X1.here hx rfl (hb hby d5_47) rfl rfl kq') ?_
    show OwnGo _ _ _ _ (T1.setTop (mkF m 48 #[.val (.ref a), .val (.int x), .val (.int y), .val (.int (15 : Int32)), .val (.int pl)] [(.ref a)]))
    obtain ⟨T4, X4, e4, st4⟩ := getF X1 hx hZ hown (host := "") (Or.inl (hw _ (List.mem_of_getElem? (i := 11) rfl))) Via.refl e1 F_ids_a (g := (mkF m 48 #[.val (.ref a), .val (.int x), .val (.int y), .val (.int (15 : Int32)), .val (.int pl)] [(.ref a)])) rfl rfl (hb hby d5_48)
    refine OwnGo.fwd st4 ?_
    show OwnGo _ _ _ _ (T4.setTop (mkF m 51 #[.val (.ref a), .val (.int x), .val (.int y), .val (.int (15 : Int32)), .val (.int pl)] [(.ref ia)]))
    refine OwnGo.fwd (fun tq' kq' => XS.iload X4.here hx rfl (hb hby d5_51) rfl kq') ?_
    show OwnGo _ _ _ _ (T4.setTop (mkF m 53 #[.val (.ref a), .val (.int x), .val (.int y), .val (.int (15 : Int32)), .val (.int pl)] [(.int pl), (.ref ia)]))
    refine OwnGo.fwd (fun tq' kq' => own_iaload X4 hx hZ e4 V_ia (i := ((own_hs x + k) % 16)) hpl (Nat.mod_lt _ (by decide)) (g := (mkF m 53 #[.val (.ref a), .val (.int x), .val (.int y), .val (.int (15 : Int32)), .val (.int pl)] [(.int pl), (.ref ia)])) rfl rfl (hb hby d5_53) tq' kq') ?_
    show OwnGo _ _ _ _ (T4.setTop (mkF m 54 #[.val (.ref a), .val (.int x), .val (.int y), .val (.int (15 : Int32)), .val (.int pl)] [(.int (f ((own_hs x + k) % 16)))]))
    by_cases hc54_5 : (f ((own_hs x + k) % 16)).toInt = 0
    · refine OwnGo.fwd (fun tq' kq' => XS.ifNo X4.here hx rfl (hb hby d5_54) rfl ((if0 _ _).trans (own_beq rfl (by decide) hc54_5).2) kq') ?_
      show OwnGo _ _ _ _ (T4.setTop (mkF m 57 #[.val (.ref a), .val (.int x), .val (.int y), .val (.int (15 : Int32)), .val (.int pl)] []))
      refine OwnGo.fwd (fun tq' kq' => XS.aloadN X4.here hx rfl (hb hby d5_57) rfl rfl kq') ?_
      show OwnGo _ _ _ _ (T4.setTop (mkF m 58 #[.val (.ref a), .val (.int x), .val (.int y), .val (.int (15 : Int32)), .val (.int pl)] [(.ref a)]))
      obtain ⟨T6, X6, e6, st6⟩ := getF X4 hx hZ hown (host := "") (Or.inl (hw _ (List.mem_of_getElem? (i := 11) rfl))) Via.refl e4 F_ids_a (g := (mkF m 58 #[.val (.ref a), .val (.int x), .val (.int y), .val (.int (15 : Int32)), .val (.int pl)] [(.ref a)])) rfl rfl (hb hby d5_58)
      refine OwnGo.fwd st6 ?_
      show OwnGo _ _ _ _ (T6.setTop (mkF m 61 #[.val (.ref a), .val (.int x), .val (.int y), .val (.int (15 : Int32)), .val (.int pl)] [(.ref ia)]))
      refine OwnGo.fwd (fun tq' kq' => XS.iload X6.here hx rfl (hb hby d5_61) rfl kq') ?_
      show OwnGo _ _ _ _ (T6.setTop (mkF m 63 #[.val (.ref a), .val (.int x), .val (.int y), .val (.int (15 : Int32)), .val (.int pl)] [(.int pl), (.ref ia)]))
      refine OwnGo.fwd (fun tq' kq' => XS.iloadN X6.here hx rfl (hb hby d5_63) rfl kq') ?_
      show OwnGo _ _ _ _ (T6.setTop (mkF m 64 #[.val (.ref a), .val (.int x), .val (.int y), .val (.int (15 : Int32)), .val (.int pl)] [(.int x), (.int pl), (.ref ia)]))
      obtain ⟨T7, h7, X7, e7, W7, V7, st7⟩ := own_iastore X6 hx hZ e6 V_ia (i := ((own_hs x + k) % 16)) hpl (Nat.mod_lt _ (by decide)) (g := (mkF m 64 #[.val (.ref a), .val (.int x), .val (.int y), .val (.int (15 : Int32)), .val (.int pl)] [(.int x), (.int pl), (.ref ia)])) rfl rfl (hb hby d5_64)
      have E_a := E_a.wr W7
      have F_ids_a := F_ids_a.other W7 (Or.inl ne_a_ia)
      have F_numbers_a := F_numbers_a.other W7 (Or.inl ne_a_ia)
      have F_shift_a := F_shift_a.other W7 (Or.inl ne_a_ia)
      have F_size_a := F_size_a.other W7 (Or.inl ne_a_ia)
      have V_na := V_na.other W7 (Ne.symm ne_ia_na)
      have K := K.wr W7 (Or.inl (List.mem_of_getElem? (i := 1) rfl))
      have Zs := Nat.le_trans Zs (Keep.of_wr W7).1
      have N := Fr.snoc X7 N g_ia
      have V_ia := V7
      refine OwnGo.fwd st7 ?_
      show OwnGo _ _ _ _ (T7.setTop (mkF m 65 #[.val (.ref a), .val (.int x), .val (.int y), .val (.int (15 : Int32)), .val (.int pl)] []))
      refine OwnGo.fwd (fun tq' kq' => XS.aloadN X7.here hx rfl (hb hby d5_65) rfl rfl kq') ?_
      show OwnGo _ _ _ _ (T7.setTop (mkF m 66 #[.val (.ref a), .val (.int x), .val (.int y), .val (.int (15 : Int32)), .val (.int pl)] [(.ref a)]))
      refine OwnGo.fwd (fun tq' kq' => XS.dup X7.here hx rfl (hb hby d5_66) rfl rfl kq') ?_
      show OwnGo _ _ _ _ (T7.setTop (mkF m 67 #[.val (.ref a), .val (.int x), .val (.int y), .val (.int (15 : Int32)), .val (.int pl)] [(.ref a), (.ref a)]))
      obtain ⟨T8, X8, e8, st8⟩ := getF X7 hx hZ hown (host := "") (Or.inl (hw _ (List.mem_of_getElem? (i := 27) rfl))) Via.refl e7 F_size_a (g := (mkF m 67 #[.val (.ref a), .val (.int x), .val (.int y), .val (.int (15 : Int32)), .val (.int pl)] [(.ref a), (.ref a)])) rfl rfl (hb hby d5_67)
      refine OwnGo.fwd st8 ?_
      show OwnGo _ _ _ _ (T8.setTop (mkF m 70 #[.val (.ref a), .val (.int x), .val (.int y), .val (.int (15 : Int32)), .val (.int pl)] [(.int (Int32.ofNat n)), (.ref a)]))
      refine OwnGo.fwd (fun tq' kq' => XS.iconst X8.here hx rfl (hb hby d5_70) kq') ?_
      show OwnGo _ _ _ _ (T8.setTop (mkF m 71 #[.val (.ref a), .val (.int x), .val (.int y), .val (.int (15 : Int32)), .val (.int pl)] [(.int (1 : Int32)), (.int (Int32.ofNat n)), (.ref a)]))
      refine OwnGo.fwd (fun tq' kq' => XS.iadd X8.here hx rfl (hb hby d5_71) rfl kq') ?_
      show OwnGo _ _ _ _ (T8.setTop (mkF m 72 #[.val (.ref a), .val (.int x), .val (.int y), .val (.int (15 : Int32)), .val (.int pl)] [(.int ((Int32.ofNat n) + (1 : Int32))), (.ref a)]))
      obtain ⟨T9, h9, X9, e9, W9, st9⟩ := putF X8 hx hZ hown (host := "") (Or.inl (hw _ (List.mem_of_getElem? (i := 27) rfl))) Via.refl e8 F_size_a E_a (Or.inl (hw _ (List.mem_of_getElem? (i := 28) rfl))) (hw _ (List.mem_of_getElem? (i := 2) rfl)) (ty := .int) (by decide) rfl rfl (g := (mkF m 72 #[.val (.ref a), .val (.int x), .val (.int y), .val (.int (15 : Int32)), .val (.int pl)] [(.int ((Int32.ofNat n) + (1 : Int32))), (.ref a)])) rfl rfl (hb hby d5_72)
      have E_a := E_a.wr W9
      have F_ids_a := F_ids_a.other W9 (Or.inr (slot_ne (Or.inr (hw _ (List.mem_of_getElem? (i := 12) rfl))) (Or.inl (hw _ (List.mem_of_getElem? (i := 28) rfl))) (by decide) (t := (.array .int)) (t' := .int) (by decide) (by decide)))
      have F_numbers_a := F_numbers_a.other W9 (Or.inr (slot_ne (Or.inr (hw _ (List.mem_of_getElem? (i := 14) rfl))) (Or.inl (hw _ (List.mem_of_getElem? (i := 28) rfl))) (by decide) (t := (.array .int)) (t' := .int) (by decide) (by decide)))
      have F_shift_a := F_shift_a.other W9 (Or.inr (slot_ne (Or.inr (hw _ (List.mem_of_getElem? (i := 21) rfl))) (Or.inl (hw _ (List.mem_of_getElem? (i := 28) rfl))) (by decide) (t := .int) (t' := .int) (by decide) (by decide)))
      have F_size_a := F_size_a.same W9
      have V_na := V_na.other W9 (Ne.symm ne_a_na)
      have V_ia := V_ia.other W9 (Ne.symm ne_a_ia)
      have K := K.wr W9 (Or.inl (List.mem_of_getElem? (i := 0) rfl))
      have Zs := Nat.le_trans Zs (Keep.of_wr W9).1
      have N := Fr.snoc X9 N g_a
      refine OwnGo.fwd st9 ?_
      show OwnGo _ _ _ _ (T9.setTop (mkF m 75 #[.val (.ref a), .val (.int x), .val (.int y), .val (.int (15 : Int32)), .val (.int pl)] []))
      refine OwnGo.fwd (fun tq' kq' => XS.aloadN X9.here hx rfl (hb hby d5_75) rfl rfl kq') ?_
      show OwnGo _ _ _ _ (T9.setTop (mkF m 76 #[.val (.ref a), .val (.int x), .val (.int y), .val (.int (15 : Int32)), .val (.int pl)] [(.ref a)]))
      obtain ⟨T10, X10, e10, st10⟩ := getF X9 hx hZ hown (host := "") (Or.inl (hw _ (List.mem_of_getElem? (i := 13) rfl))) Via.refl e9 F_numbers_a (g := (mkF m 76 #[.val (.ref a), .val (.int x), .val (.int y), .val (.int (15 : Int32)), .val (.int pl)] [(.ref a)])) rfl rfl (hb hby d5_76)
      refine OwnGo.fwd st10 ?_
      show OwnGo _ _ _ _ (T10.setTop (mkF m 79 #[.val (.ref a), .val (.int x), .val (.int y), .val (.int (15 : Int32)), .val (.int pl)] [(.ref na)]))
      refine OwnGo.fwd (fun tq' kq' => XS.iload X10.here hx rfl (hb hby d5_79) rfl kq') ?_
      show OwnGo _ _ _ _ (T10.setTop (mkF m 81 #[.val (.ref a), .val (.int x), .val (.int y), .val (.int (15 : Int32)), .val (.int pl)] [(.int pl), (.ref na)]))
      refine OwnGo.fwd (fun tq' kq' => XS.iloadN X10.here hx rfl (hb hby d5_81) rfl kq') ?_
      show OwnGo _ _ _ _ (T10.setTop (mkF m 82 #[.val (.ref a), .val (.int x), .val (.int y), .val (.int (15 : Int32)), .val (.int pl)] [(.int y), (.int pl), (.ref na)]))
      obtain ⟨T11, h11, X11, e11, W11, V11, st11⟩ := own_iastore X10 hx hZ e10 V_na (i := ((own_hs x + k) % 16)) hpl (Nat.mod_lt _ (by decide)) (g := (mkF m 82 #[.val (.ref a), .val (.int x), .val (.int y), .val (.int (15 : Int32)), .val (.int pl)] [(.int y), (.int pl), (.ref na)])) rfl rfl (hb hby d5_82)
      have E_a := E_a.wr W11
      have F_ids_a := F_ids_a.other W11 (Or.inl ne_a_na)
      have F_numbers_a := F_numbers_a.other W11 (Or.inl ne_a_na)
      have F_shift_a := F_shift_a.other W11 (Or.inl ne_a_na)
      have F_size_a := F_size_a.other W11 (Or.inl ne_a_na)
      have V_ia := V_ia.other W11 ne_ia_na
      have K := K.wr W11 (Or.inl (List.mem_of_getElem? (i := 2) rfl))
      have Zs := Nat.le_trans Zs (Keep.of_wr W11).1
      have N := Fr.snoc X11 N g_na
      have V_na := V11
      refine OwnGo.fwd st11 ?_
      show OwnGo _ _ _ _ (T11.setTop (mkF m 83 #[.val (.ref a), .val (.int x), .val (.int y), .val (.int (15 : Int32)), .val (.int pl)] []))
      exact own_retV X11 hlk hx Bd.returns (hb hby d5_83) (by decide) (by decide) e11 ⟨rfl, N, K, n + 1, own_up f ((own_hs x + k) % 16) x, _, ⟨E_a, F_ids_a, F_numbers_a, F_shift_a, (own_ofNatS n) ▸ F_size_a, V_ia, V_na, ne_a_ia, ne_a_na, ne_ia_na, g_a, g_ia, g_na⟩, own_put_new HV hx0 hk hlo (own_zi hc54_5)⟩
    · refine OwnGo.fwd (fun tq' kq' => XS.ifYes X4.here hx rfl (pc0 := 54) (pc' := 75) rfl (hb hby d5_54) rfl ((if0 _ _).trans (own_bneq rfl (by decide) hc54_5).2) (by decide) (by decide) kq') ?_
      show OwnGo _ _ _ _ (T4.setTop (mkF m 75 #[.val (.ref a), .val (.int x), .val (.int y), .val (.int (15 : Int32)), .val (.int pl)] []))
      refine OwnGo.fwd (fun tq' kq' => XS.aloadN X4.here hx rfl (hb hby d5_75) rfl rfl kq') ?_
      show OwnGo _ _ _ _ (T4.setTop (mkF m 76 #[.val (.ref a), .val (.int x), .val (.int y), .val (.int (15 : Int32)), .val (.int pl)] [(.ref a)]))
      obtain ⟨T12, X12, e12, st12⟩ := getF X4 hx hZ hown (host := "") (Or.inl (hw _ (List.mem_of_getElem? (i := 13) rfl))) Via.refl e4 F_numbers_a (g := (mkF m 76 #[.val (.ref a), .val (.int x), .val (.int y), .val (.int (15 : Int32)), .val (.int pl)] [(.ref a)])) rfl rfl (hb hby d5_76)
      refine OwnGo.fwd st12 ?_
      show OwnGo _ _ _ _ (T12.setTop (mkF m 79 #[.val (.ref a), .val (.int x), .val (.int y), .val (.int (15 : Int32)), .val (.int pl)] [(.ref na)]))
      refine OwnGo.fwd (fun tq' kq' => XS.iload X12.here hx rfl (hb hby d5_79) rfl kq') ?_
      show OwnGo _ _ _ _ (T12.setTop (mkF m 81 #[.val (.ref a), .val (.int x), .val (.int y), .val (.int (15 : Int32)), .val (.int pl)] [(.int pl), (.ref na)]))
      refine OwnGo.fwd (fun tq' kq' => XS.iloadN X12.here hx rfl (hb hby d5_81) rfl kq') ?_
      show OwnGo _ _ _ _ (T12.setTop (mkF m 82 #[.val (.ref a), .val (.int x), .val (.int y), .val (.int (15 : Int32)), .val (.int pl)] [(.int y), (.int pl), (.ref na)]))
      obtain ⟨T13, h13, X13, e13, W13, V13, st13⟩ := own_iastore X12 hx hZ e12 V_na (i := ((own_hs x + k) % 16)) hpl (Nat.mod_lt _ (by decide)) (g := (mkF m 82 #[.val (.ref a), .val (.int x), .val (.int y), .val (.int (15 : Int32)), .val (.int pl)] [(.int y), (.int pl), (.ref na)])) rfl rfl (hb hby d5_82)
      have E_a := E_a.wr W13
      have F_ids_a := F_ids_a.other W13 (Or.inl ne_a_na)
      have F_numbers_a := F_numbers_a.other W13 (Or.inl ne_a_na)
      have F_shift_a := F_shift_a.other W13 (Or.inl ne_a_na)
      have F_size_a := F_size_a.other W13 (Or.inl ne_a_na)
      have V_ia := V_ia.other W13 ne_ia_na
      have K := K.wr W13 (Or.inl (List.mem_of_getElem? (i := 2) rfl))
      have Zs := Nat.le_trans Zs (Keep.of_wr W13).1
      have N := Fr.snoc X13 N g_na
      have V_na := V13
      refine OwnGo.fwd st13 ?_
      show OwnGo _ _ _ _ (T13.setTop (mkF m 83 #[.val (.ref a), .val (.int x), .val (.int y), .val (.int (15 : Int32)), .val (.int pl)] []))
      exact own_retV X13 hlk hx Bd.returns (hb hby d5_83) (by decide) (by decide) e13 ⟨rfl, N, K, n, f, _, ⟨E_a, F_ids_a, F_numbers_a, F_shift_a, F_size_a, V_ia, V_na, ne_a_ia, ne_a_na, ne_ia_na, g_a, g_ia, g_na⟩, own_put_old HV (Nat.mod_lt _ (by decide)) (hend.resolve_right fun q => hc54_5 (by rw [q]; decide))⟩
  obtain ⟨d, hd, hdz⟩ := own_zeroat HV hn (own_hs x) hhv.2
  have K15 : ∀ r : Nat, r ≤ d → ∀ (T1 : State) (L1 : List Loc) (k : Nat) (pl : Int32), Stand p l e ({ frames := 1, cells := 0, slots := 0, locals := 14 } : Room) s m #[(.ref a), (.int x), (.int y)] below meth c T1 L1 0 0 → T1.heap = h0 → Fr n0 L1 → k < 16 → pl.toInt = ((own_hs x + k) % 16 : Nat) → (∀ j, j < k → f ((own_hs x + j) % 16) ≠ x ∧ f ((own_hs x + j) % 16) ≠ 0) →  k + r = d → OwnGo p.tables e below (OwnEnd s (Q5 Z a ia na n f g x y h0 n0) ({ frames := 1, cells := 0, slots := 0, locals := 14 } : Room).cells ({ frames := 1, cells := 0, slots := 0, locals := 14 } : Room).slots) (T1.setTop (mkF m 15 #[.val (.ref a), .val (.int x), .val (.int y), .val (.int (15 : Int32)), .val (.int pl)] [])) := by
    intro r
    induction r with
    | zero =>
      intro _
      intro T1 L1 k pl X1 e1 N hk hpl hlo hr
      show OwnGo _ _ _ _ (T1.setTop (mkF m 15 #[.val (.ref a), .val (.int x), .val (.int y), .val (.int (15 : Int32)), .val (.int pl)] []))
      refine OwnGo.fwd (fun tq' kq' => XS.aloadN X1.here hx rfl (hb hby d5_15) rfl rfl kq') ?_
      show OwnGo _ _ _ _ (T1.setTop (mkF m 16 #[.val (.ref a), .val (.int x), .val (.int y), .val (.int (15 : Int32)), .val (.int pl)] [(.ref a)]))
      obtain ⟨T14, X14, e14, st14⟩ := getF X1 hx hZ hown (host := "") (Or.inl (hw _ (List.mem_of_getElem? (i := 11) rfl))) Via.refl e1 F_ids_a (g := (mkF m 16 #[.val (.ref a), .val (.int x), .val (.int y), .val (.int (15 : Int32)), .val (.int pl)] [(.ref a)])) rfl rfl (hb hby d5_16)
      refine OwnGo.fwd st14 ?_
      show OwnGo _ _ _ _ (T14.setTop (mkF m 19 #[.val (.ref a), .val (.int x), .val (.int y), .val (.int (15 : Int32)), .val (.int pl)] [(.ref ia)]))
      refine OwnGo.fwd (fun tq' kq' => XS.iload X14.here hx rfl (hb hby d5_19) rfl kq') ?_
      show OwnGo _ _ _ _ (T14.setTop (mkF m 21 #[.val (.ref a), .val (.int x), .val (.int y), .val (.int (15 : Int32)), .val (.int pl)] [(.int pl), (.ref ia)]))
      refine OwnGo.fwd (fun tq' kq' => own_iaload X14 hx hZ e14 V_ia (i := ((own_hs x + k) % 16)) hpl (Nat.mod_lt _ (by decide)) (g := (mkF m 21 #[.val (.ref a), .val (.int x), .val (.int y), .val (.int (15 : Int32)), .val (.int pl)] [(.int pl), (.ref ia)])) rfl rfl (hb hby d5_21) tq' kq') ?_
      show OwnGo _ _ _ _ (T14.setTop (mkF m 22 #[.val (.ref a), .val (.int x), .val (.int y), .val (.int (15 : Int32)), .val (.int pl)] [(.int (f ((own_hs x + k) % 16)))]))
      refine OwnGo.fwd (fun tq' kq' => XS.iloadN X14.here hx rfl (hb hby d5_22) rfl kq') ?_
      show OwnGo _ _ _ _ (T14.setTop (mkF m 23 #[.val (.ref a), .val (.int x), .val (.int y), .val (.int (15 : Int32)), .val (.int pl)] [(.int x), (.int (f ((own_hs x + k) % 16)))]))
      by_cases hc23_15 : (f ((own_hs x + k) % 16)).toInt = x.toInt
      · refine OwnGo.fwd (fun tq' kq' => XS.icmpYes X14.here hx rfl (pc0 := 23) (pc' := 47) rfl (hb hby d5_23) rfl (own_beq rfl rfl hc23_15).1 (by decide) (by decide) kq') ?_
        show OwnGo _ _ _ _ (T14.setTop (mkF m 47 #[.val (.ref a), .val (.int x), .val (.int y), .val (.int (15 : Int32)), .val (.int pl)] []))
        exact K47 T14 _ k pl X14 e14 N hk hpl hlo (Or.inl (own_ei hc23_15))
      · refine OwnGo.fwd (fun tq' kq' => XS.icmpNo X14.here hx rfl (hb hby d5_23) rfl (own_bneq rfl rfl hc23_15).1 kq') ?_
        show OwnGo _ _ _ _ (T14.setTop (mkF m 26 #[.val (.ref a), .val (.int x), .val (.int y), .val (.int (15 : Int32)), .val (.int pl)] []))
        refine OwnGo.fwd (fun tq' kq' => XS.aloadN X14.here hx rfl (hb hby d5_26) rfl rfl kq') ?_
        show OwnGo _ _ _ _ (T14.setTop (mkF m 27 #[.val (.ref a), .val (.int x), .val (.int y), .val (.int (15 : Int32)), .val (.int pl)] [(.ref a)]))
        obtain ⟨T16, X16, e16, st16⟩ := getF X14 hx hZ hown (host := "") (Or.inl (hw _ (List.mem_of_getElem? (i := 11) rfl))) Via.refl e14 F_ids_a (g := (mkF m 27 #[.val (.ref a), .val (.int x), .val (.int y), .val (.int (15 : Int32)), .val (.int pl)] [(.ref a)])) rfl rfl (hb hby d5_27)
        refine OwnGo.fwd st16 ?_
        show OwnGo _ _ _ _ (T16.setTop (mkF m 30 #[.val (.ref a), .val (.int x), .val (.int y), .val (.int (15 : Int32)), .val (.int pl)] [(.ref ia)]))
        refine OwnGo.fwd (fun tq' kq' => XS.iload X16.here hx rfl (hb hby d5_30) rfl kq') ?_
        show OwnGo _ _ _ _ (T16.setTop (mkF m 32 #[.val (.ref a), .val (.int x), .val (.int y), .val (.int (15 : Int32)), .val (.int pl)] [(.int pl), (.ref ia)]))
        refine OwnGo.fwd (fun tq' kq' => own_iaload X16 hx hZ e16 V_ia (i := ((own_hs x + k) % 16)) hpl (Nat.mod_lt _ (by decide)) (g := (mkF m 32 #[.val (.ref a), .val (.int x), .val (.int y), .val (.int (15 : Int32)), .val (.int pl)] [(.int pl), (.ref ia)])) rfl rfl (hb hby d5_32) tq' kq') ?_
        show OwnGo _ _ _ _ (T16.setTop (mkF m 33 #[.val (.ref a), .val (.int x), .val (.int y), .val (.int (15 : Int32)), .val (.int pl)] [(.int (f ((own_hs x + k) % 16)))]))
        by_cases hc33_17 : (f ((own_hs x + k) % 16)).toInt = 0
        · refine OwnGo.fwd (fun tq' kq' => XS.ifYes X16.here hx rfl (pc0 := 33) (pc' := 47) rfl (hb hby d5_33) rfl ((if0 _ _).trans (own_beq rfl (by decide) hc33_17).1) (by decide) (by decide) kq') ?_
          show OwnGo _ _ _ _ (T16.setTop (mkF m 47 #[.val (.ref a), .val (.int x), .val (.int y), .val (.int (15 : Int32)), .val (.int pl)] []))
          exact K47 T16 _ k pl X16 e16 N hk hpl hlo (Or.inr (own_zi hc33_17))
        · refine OwnGo.fwd (fun tq' kq' => XS.ifNo X16.here hx rfl (hb hby d5_33) rfl ((if0 _ _).trans (own_bneq rfl (by decide) hc33_17).1) kq') ?_
          show OwnGo _ _ _ _ (T16.setTop (mkF m 36 #[.val (.ref a), .val (.int x), .val (.int y), .val (.int (15 : Int32)), .val (.int pl)] []))
          exact absurd (by rw [show k = d by omega, hdz]; decide) hc33_17
    | succ r ih =>
      intro _
      intro T1 L1 k pl X1 e1 N hk hpl hlo hr
      show OwnGo _ _ _ _ (T1.setTop (mkF m 15 #[.val (.ref a), .val (.int x), .val (.int y), .val (.int (15 : Int32)), .val (.int pl)] []))
      refine OwnGo.fwd (fun tq' kq' => XS.aloadN X1.here hx rfl (hb hby d5_15) rfl rfl kq') ?_
      show OwnGo _ _ _ _ (T1.setTop (mkF m 16 #[.val (.ref a), .val (.int x), .val (.int y), .val (.int (15 : Int32)), .val (.int pl)] [(.ref a)]))
      obtain ⟨T18, X18, e18, st18⟩ := getF X1 hx hZ hown (host := "") (Or.inl (hw _ (List.mem_of_getElem? (i := 11) rfl))) Via.refl e1 F_ids_a (g := (mkF m 16 #[.val (.ref a), .val (.int x), .val (.int y), .val (.int (15 : Int32)), .val (.int pl)] [(.ref a)])) rfl rfl (hb hby d5_16)
      refine OwnGo.fwd st18 ?_
      show OwnGo _ _ _ _ (T18.setTop (mkF m 19 #[.val (.ref a), .val (.int x), .val (.int y), .val (.int (15 : Int32)), .val (.int pl)] [(.ref ia)]))
      refine OwnGo.fwd (fun tq' kq' => XS.iload X18.here hx rfl (hb hby d5_19) rfl kq') ?_
      show OwnGo _ _ _ _ (T18.setTop (mkF m 21 #[.val (.ref a), .val (.int x), .val (.int y), .val (.int (15 : Int32)), .val (.int pl)] [(.int pl), (.ref ia)]))
      refine OwnGo.fwd (fun tq' kq' => own_iaload X18 hx hZ e18 V_ia (i := ((own_hs x + k) % 16)) hpl (Nat.mod_lt _ (by decide)) (g := (mkF m 21 #[.val (.ref a), .val (.int x), .val (.int y), .val (.int (15 : Int32)), .val (.int pl)] [(.int pl), (.ref ia)])) rfl rfl (hb hby d5_21) tq' kq') ?_
      show OwnGo _ _ _ _ (T18.setTop (mkF m 22 #[.val (.ref a), .val (.int x), .val (.int y), .val (.int (15 : Int32)), .val (.int pl)] [(.int (f ((own_hs x + k) % 16)))]))
      refine OwnGo.fwd (fun tq' kq' => XS.iloadN X18.here hx rfl (hb hby d5_22) rfl kq') ?_
      show OwnGo _ _ _ _ (T18.setTop (mkF m 23 #[.val (.ref a), .val (.int x), .val (.int y), .val (.int (15 : Int32)), .val (.int pl)] [(.int x), (.int (f ((own_hs x + k) % 16)))]))
      by_cases hc23_19 : (f ((own_hs x + k) % 16)).toInt = x.toInt
      · refine OwnGo.fwd (fun tq' kq' => XS.icmpYes X18.here hx rfl (pc0 := 23) (pc' := 47) rfl (hb hby d5_23) rfl (own_beq rfl rfl hc23_19).1 (by decide) (by decide) kq') ?_
        show OwnGo _ _ _ _ (T18.setTop (mkF m 47 #[.val (.ref a), .val (.int x), .val (.int y), .val (.int (15 : Int32)), .val (.int pl)] []))
        exact K47 T18 _ k pl X18 e18 N hk hpl hlo (Or.inl (own_ei hc23_19))
      · refine OwnGo.fwd (fun tq' kq' => XS.icmpNo X18.here hx rfl (hb hby d5_23) rfl (own_bneq rfl rfl hc23_19).1 kq') ?_
        show OwnGo _ _ _ _ (T18.setTop (mkF m 26 #[.val (.ref a), .val (.int x), .val (.int y), .val (.int (15 : Int32)), .val (.int pl)] []))
        refine OwnGo.fwd (fun tq' kq' => XS.aloadN X18.here hx rfl (hb hby d5_26) rfl rfl kq') ?_
        show OwnGo _ _ _ _ (T18.setTop (mkF m 27 #[.val (.ref a), .val (.int x), .val (.int y), .val (.int (15 : Int32)), .val (.int pl)] [(.ref a)]))
        obtain ⟨T20, X20, e20, st20⟩ := getF X18 hx hZ hown (host := "") (Or.inl (hw _ (List.mem_of_getElem? (i := 11) rfl))) Via.refl e18 F_ids_a (g := (mkF m 27 #[.val (.ref a), .val (.int x), .val (.int y), .val (.int (15 : Int32)), .val (.int pl)] [(.ref a)])) rfl rfl (hb hby d5_27)
        refine OwnGo.fwd st20 ?_
        show OwnGo _ _ _ _ (T20.setTop (mkF m 30 #[.val (.ref a), .val (.int x), .val (.int y), .val (.int (15 : Int32)), .val (.int pl)] [(.ref ia)]))
        refine OwnGo.fwd (fun tq' kq' => XS.iload X20.here hx rfl (hb hby d5_30) rfl kq') ?_
        show OwnGo _ _ _ _ (T20.setTop (mkF m 32 #[.val (.ref a), .val (.int x), .val (.int y), .val (.int (15 : Int32)), .val (.int pl)] [(.int pl), (.ref ia)]))
        refine OwnGo.fwd (fun tq' kq' => own_iaload X20 hx hZ e20 V_ia (i := ((own_hs x + k) % 16)) hpl (Nat.mod_lt _ (by decide)) (g := (mkF m 32 #[.val (.ref a), .val (.int x), .val (.int y), .val (.int (15 : Int32)), .val (.int pl)] [(.int pl), (.ref ia)])) rfl rfl (hb hby d5_32) tq' kq') ?_
        show OwnGo _ _ _ _ (T20.setTop (mkF m 33 #[.val (.ref a), .val (.int x), .val (.int y), .val (.int (15 : Int32)), .val (.int pl)] [(.int (f ((own_hs x + k) % 16)))]))
        by_cases hc33_21 : (f ((own_hs x + k) % 16)).toInt = 0
        · refine OwnGo.fwd (fun tq' kq' => XS.ifYes X20.here hx rfl (pc0 := 33) (pc' := 47) rfl (hb hby d5_33) rfl ((if0 _ _).trans (own_beq rfl (by decide) hc33_21).1) (by decide) (by decide) kq') ?_
          show OwnGo _ _ _ _ (T20.setTop (mkF m 47 #[.val (.ref a), .val (.int x), .val (.int y), .val (.int (15 : Int32)), .val (.int pl)] []))
          exact K47 T20 _ k pl X20 e20 N hk hpl hlo (Or.inr (own_zi hc33_21))
        · refine OwnGo.fwd (fun tq' kq' => XS.ifNo X20.here hx rfl (hb hby d5_33) rfl ((if0 _ _).trans (own_bneq rfl (by decide) hc33_21).1) kq') ?_
          show OwnGo _ _ _ _ (T20.setTop (mkF m 36 #[.val (.ref a), .val (.int x), .val (.int y), .val (.int (15 : Int32)), .val (.int pl)] []))
          refine OwnGo.fwd (fun tq' kq' => XS.iload X20.here hx rfl (hb hby d5_36) rfl kq') ?_
          show OwnGo _ _ _ _ (T20.setTop (mkF m 38 #[.val (.ref a), .val (.int x), .val (.int y), .val (.int (15 : Int32)), .val (.int pl)] [(.int pl)]))
          refine OwnGo.fwd (fun tq' kq' => XS.iconst X20.here hx rfl (hb hby d5_38) kq') ?_
          show OwnGo _ _ _ _ (T20.setTop (mkF m 39 #[.val (.ref a), .val (.int x), .val (.int y), .val (.int (15 : Int32)), .val (.int pl)] [(.int (1 : Int32)), (.int pl)]))
          refine OwnGo.fwd (fun tq' kq' => XS.iadd X20.here hx rfl (hb hby d5_39) rfl kq') ?_
          show OwnGo _ _ _ _ (T20.setTop (mkF m 40 #[.val (.ref a), .val (.int x), .val (.int y), .val (.int (15 : Int32)), .val (.int pl)] [(.int (pl + (1 : Int32)))]))
          refine OwnGo.fwd (fun tq' kq' => XS.iloadN X20.here hx rfl (hb hby d5_40) rfl kq') ?_
          show OwnGo _ _ _ _ (T20.setTop (mkF m 41 #[.val (.ref a), .val (.int x), .val (.int y), .val (.int (15 : Int32)), .val (.int pl)] [(.int (15 : Int32)), (.int (pl + (1 : Int32)))]))
          refine OwnGo.fwd (fun tq' kq' => XS.iand X20.here hx rfl (hb hby d5_41) rfl kq') ?_
          show OwnGo _ _ _ _ (T20.setTop (mkF m 42 #[.val (.ref a), .val (.int x), .val (.int y), .val (.int (15 : Int32)), .val (.int pl)] [(.int ((pl + (1 : Int32)) &&& (15 : Int32)))]))
          refine OwnGo.fwd (fun tq' kq' => XS.istore X20.here hx rfl (hb hby d5_42) rfl (l' := #[.val (.ref a), .val (.int x), .val (.int y), .val (.int (15 : Int32)), .val (.int ((pl + (1 : Int32)) &&& (15 : Int32)))]) rfl kq') ?_
          show OwnGo _ _ _ _ (T20.setTop (mkF m 44 #[.val (.ref a), .val (.int x), .val (.int y), .val (.int (15 : Int32)), .val (.int ((pl + (1 : Int32)) &&& (15 : Int32)))] []))
          refine OwnGo.fwd (fun tq' kq' => XS.goto X20.here hx rfl (pc0 := 44) (pc' := 15) rfl (hb hby d5_44) (by decide) (by decide) kq') ?_
          exact ih (by omega) T20 _ (k + 1) _ X20 e20 N (by omega) (own_next hpl) (fun j hj => by
            rcases Nat.lt_or_ge j k with q | q
            · exact hlo j q
            · rw [show j = k by omega]; exact ⟨own_ni hc23_19, own_nz hc33_21⟩) (by omega)
  refine OwnGo.fwd (fun tq' kq' => XS.istore X2.here hx rfl (hb hby d5_13) rfl (l' := #[.val (.ref a), .val (.int x), .val (.int y), .val (.int (15 : Int32)), .val (.int hv)]) rfl kq') ?_
  show OwnGo _ _ _ _ (T2.setTop (mkF m 15 #[.val (.ref a), .val (.int x), .val (.int y), .val (.int (15 : Int32)), .val (.int hv)] []))
  exact K15 d (Nat.le_refl _) T2 _ 0 hv X2 e2 N (by decide) (by rw [hhv.1]; have := hhv.2; omega) (fun j hj => absurd hj (Nat.not_lt_zero _)) (by omega)
theorem d4_0 : decode prog_105_method_6_code 0 = .ok (.aload_n 0, 1) := by decide +kernel
theorem d4_1 : decode prog_105_method_6_code 1 = .ok (.getfield 26, 3) := by decide +kernel
theorem d4_4 : decode prog_105_method_6_code 4 = .ok (.newarray .int, 2) := by decide +kernel
theorem d4_6 : decode prog_105_method_6_code 6 = .ok (.astore_n 1, 1) := by decide +kernel
theorem d4_7 : decode prog_105_method_6_code 7 = .ok (.iconst 0, 1) := by decide +kernel
theorem d4_8 : decode prog_105_method_6_code 8 = .ok (.istore_n 2, 1) := by decide +kernel
theorem d4_9 : decode prog_105_method_6_code 9 = .ok (.aload_n 0, 1) := by decide +kernel
theorem d4_10 : decode prog_105_method_6_code 10 = .ok (.getfield 7, 3) := by decide +kernel
theorem d4_13 : decode prog_105_method_6_code 13 = .ok (.astore_n 3, 1) := by decide +kernel
theorem d4_14 : decode prog_105_method_6_code 14 = .ok (.aload_n 3, 1) := by decide +kernel
theorem d4_15 : decode prog_105_method_6_code 15 = .ok (.arraylength, 1) := by decide +kernel
theorem d4_16 : decode prog_105_method_6_code 16 = .ok (.istore 4, 2) := by decide +kernel
theorem d4_18 : decode prog_105_method_6_code 18 = .ok (.iconst 0, 1) := by decide +kernel
theorem d4_19 : decode prog_105_method_6_code 19 = .ok (.istore 5, 2) := by decide +kernel
theorem d4_21 : decode prog_105_method_6_code 21 = .ok (.iload 5, 2) := by decide +kernel
theorem d4_23 : decode prog_105_method_6_code 23 = .ok (.iload 4, 2) := by decide +kernel
theorem d4_25 : decode prog_105_method_6_code 25 = .ok (.if_icmp .ge 28, 3) := by decide +kernel
theorem d4_28 : decode prog_105_method_6_code 28 = .ok (.aload_n 3, 1) := by decide +kernel
theorem d4_29 : decode prog_105_method_6_code 29 = .ok (.iload 5, 2) := by decide +kernel
theorem d4_31 : decode prog_105_method_6_code 31 = .ok (.iaload, 1) := by decide +kernel
theorem d4_32 : decode prog_105_method_6_code 32 = .ok (.istore 6, 2) := by decide +kernel
theorem d4_34 : decode prog_105_method_6_code 34 = .ok (.iload 6, 2) := by decide +kernel
theorem d4_36 : decode prog_105_method_6_code 36 = .ok (.ifCond .eq 11, 3) := by decide +kernel
theorem d4_39 : decode prog_105_method_6_code 39 = .ok (.aload_n 1, 1) := by decide +kernel
theorem d4_40 : decode prog_105_method_6_code 40 = .ok (.iload_n 2, 1) := by decide +kernel
theorem d4_41 : decode prog_105_method_6_code 41 = .ok (.iinc 2 1, 3) := by decide +kernel
theorem d4_44 : decode prog_105_method_6_code 44 = .ok (.iload 6, 2) := by decide +kernel
theorem d4_46 : decode prog_105_method_6_code 46 = .ok (.iastore, 1) := by decide +kernel
theorem d4_47 : decode prog_105_method_6_code 47 = .ok (.iinc 5 1, 3) := by decide +kernel
theorem d4_50 : decode prog_105_method_6_code 50 = .ok (.goto (-29), 3) := by decide +kernel
theorem d4_53 : decode prog_105_method_6_code 53 = .ok (.aload_n 1, 1) := by decide +kernel
theorem d4_54 : decode prog_105_method_6_code 54 = .ok (.areturn, 1) := by decide +kernel
theorem pn_4 : plainFor (⟨"com/example/rolestack/rolestack/NumbersById", "ids", "()[I"⟩ : MethodName) = true := plainFor_of_name (by first | (simp [plainName, overriddenIn]; done) | decide +kernel)
theorem ef_4 (m : MethodId) (x0 : Addr) : entryFrame m #[(.ref x0)] 7 = mkF m 0 #[.val (.ref x0), .unset, .unset, .unset, .unset, .unset, .unset] [] := by first | (simp [entryFrame, mkF, argsToLocals, Value.category, maxLocals]; done) | rfl
def Q4 (Z : State) (a : Addr) (ia : Addr) (na : Addr) (n : Nat) (f : Nat → Int32) (g : Nat → Int32) (h0 : Heap) (n0 : Nat) (v : Option Value) (h : Heap) (L : List Loc) : Prop := v = some (.ref h0.size) ∧ Fr n0 L ∧ Keep h0 h [] ∧ ∃ u, OwnIA Z h h0.size n u ∧ ∀ j, j < 16 → f j ≠ 0 → u (own_cnt f j) = f j
set_option maxRecDepth 65536 in
set_option maxHeartbeats 40000000 in
theorem rm4 (l : Launch) (Z : State) (a0 : Array Value) (hw : ∀ d ∈ tables_1, d.before a0 Z = true) (ws : List Jvm.Cond) (a : Addr) (ia : Addr) (na : Addr) (n : Nat) (f : Nat → Int32) (g : Nat → Int32) (h0 : Heap) (n0 : Nat) (Z0 : n0 ≤ h0.size) (HA : own_N Z h0 n0 a ia na n f g) (HV : own_Inv f n) (hn : n ≤ 4) :
    MetFree l (⟨"com/example/rolestack/rolestack/NumbersById", "ids", "()[I"⟩ : MethodName) (head1 (Jvm.Cond.code (⟨"com/example/rolestack/rolestack/NumbersById", "ids", "()[I"⟩ : MethodName) prog_105_method_6_code 7 (some (.array .int)) :: ws) ({ frames := 0, cells := 1, slots := 4, locals := 0 } : Room)) (fun arr' U => arr' = #[(.ref a)] ∧ Z.Warmed39 U.vm ∧ U.heap = h0) (fun _ _ _ _ _ => True) (fun _ U o U' => ∃ v L, o = .returned v ∧ (Q4 Z a ia na n f g h0 n0) v U'.heap L ∧ FrameEnd U o U' L ({ frames := 0, cells := 1, slots := 4, locals := 0 } : Room).cells ({ frames := 0, cells := 1, slots := 4, locals := 0 } : Room).slots) := by
  refine MetFree.of_bodySF pn_4 hisR ?_
  intro p e s m args below meth c s₁ Bd hml0 hP hK
  obtain ⟨rfl, hZ, hh⟩ := hP
  have hx := Bd.exec
  have hby := Bd.bytes
  have hlk : meth.locks = false := BodyLoose.notSynchronized Bd
  have hml : c.maxLocals = 7 := hml0
  have hown : s.vm.findClass "com/example/rolestack/rolestack/NumbersById" = some m.cls := findClass_of_methodNamed Bd.named
  have hnm := (name_of_methodNamed Bd.named Bd.method).1
  have X0 : Stand p l e ({ frames := 0, cells := 1, slots := 4, locals := 0 } : Room) s m #[(.ref a)] below meth c s₁ [] 0 0 := Stand.of_body Bd
  have e0 : s₁.heap = h0 := by rw [← hh, Bd.state]; rfl
  have N := Fr.nil n0
  have Zs := Z0
  change OwnGo p.tables e below (OwnEnd s (Q4 Z a ia na n f g h0 n0) ({ frames := 0, cells := 1, slots := 4, locals := 0 } : Room).cells ({ frames := 0, cells := 1, slots := 4, locals := 0 } : Room).slots) _
  refine OwnGo.fwd (fun tq' kq' => castTop (ef_4 m a) kq') ?_
  show OwnGo _ _ _ _ (s₁.setTop (mkF m 0 #[.val (.ref a), .unset, .unset, .unset, .unset, .unset, .unset] []))
  obtain ⟨E_a, F_ids_a, F_numbers_a, F_shift_a, F_size_a, V_ia, V_na, ne_a_ia, ne_a_na, ne_ia_na, g_a, g_ia, g_na⟩ := HA
  have hi_n : (Int32.ofNat n).toInt = (n : Int) := own_ofNat (by omega)
  have K : Keep h0 h0 [] := Keep.refl _ _
  refine OwnGo.fwd (fun tq' kq' => XS.aloadN X0.here hx rfl (hb hby d4_0) rfl rfl kq') ?_
  show OwnGo _ _ _ _ (s₁.setTop (mkF m 1 #[.val (.ref a), .unset, .unset, .unset, .unset, .unset, .unset] [(.ref a)]))
  obtain ⟨T1, X1, e1, st1⟩ := getF X0 hx hZ hown (host := "") (Or.inl (hw _ (List.mem_of_getElem? (i := 27) rfl))) Via.refl e0 F_size_a (g := (mkF m 1 #[.val (.ref a), .unset, .unset, .unset, .unset, .unset, .unset] [(.ref a)])) rfl rfl (hb hby d4_1)
  refine OwnGo.fwd st1 ?_
  show OwnGo _ _ _ _ (T1.setTop (mkF m 4 #[.val (.ref a), .unset, .unset, .unset, .unset, .unset, .unset] [(.int (Int32.ofNat n))]))
  obtain ⟨T2, h2, b2, X2, e2, E2, g2, V2, st2⟩ := own_newI X1 hx hZ (hw _ (List.mem_of_getElem? (i := 10) rfl)) e1 (g := (mkF m 4 #[.val (.ref a), .unset, .unset, .unset, .unset, .unset, .unset] [(.int (Int32.ofNat n))])) rfl (hb hby d4_4) rfl (i := n) hi_n (cap := 4) hn (by decide) (by decide) (by decide)
  have ne_a_b2 : a ≠ b2 := Nat.ne_of_lt (Nat.lt_of_lt_of_le E_a.lt (Nat.le_of_eq g2.symm))
  have ne_ia_b2 : ia ≠ b2 := Nat.ne_of_lt (Nat.lt_of_lt_of_le V_ia.lt (Nat.le_of_eq g2.symm))
  have ne_na_b2 : na ≠ b2 := Nat.ne_of_lt (Nat.lt_of_lt_of_le V_na.lt (Nat.le_of_eq g2.symm))
  have g_b2 : n0 ≤ b2 := Nat.le_trans Zs (Nat.le_of_eq g2.symm)
  have sz_b2 : h0.size ≤ b2 := Nat.le_trans K.1 (Nat.le_of_eq g2.symm)
  have K := K.ext E2
  have Zs := Nat.le_trans Zs E2.1
  have E_a := E_a.ext E2
  have F_ids_a := F_ids_a.ext E2
  have F_numbers_a := F_numbers_a.ext E2
  have F_shift_a := F_shift_a.ext E2
  have F_size_a := F_size_a.ext E2
  have V_ia := V_ia.ext E2
  have V_na := V_na.ext E2
  have V_b2 := V2
  refine OwnGo.fwd st2 ?_
  show OwnGo _ _ _ _ (T2.setTop (mkF m 6 #[.val (.ref a), .unset, .unset, .unset, .unset, .unset, .unset] [(.ref b2)]))
  refine OwnGo.fwd (fun tq' kq' => XS.astoreN X2.here hx rfl (hb hby d4_6) rfl rfl (l' := #[.val (.ref a), .val (.ref b2), .unset, .unset, .unset, .unset, .unset]) rfl kq') ?_
  show OwnGo _ _ _ _ (T2.setTop (mkF m 7 #[.val (.ref a), .val (.ref b2), .unset, .unset, .unset, .unset, .unset] []))
  refine OwnGo.fwd (fun tq' kq' => XS.iconst X2.here hx rfl (hb hby d4_7) kq') ?_
  show OwnGo _ _ _ _ (T2.setTop (mkF m 8 #[.val (.ref a), .val (.ref b2), .unset, .unset, .unset, .unset, .unset] [(.int (0 : Int32))]))
  refine OwnGo.fwd (fun tq' kq' => XS.istoreN X2.here hx rfl (hb hby d4_8) rfl (l' := #[.val (.ref a), .val (.ref b2), .val (.int (0 : Int32)), .unset, .unset, .unset, .unset]) rfl kq') ?_
  show OwnGo _ _ _ _ (T2.setTop (mkF m 9 #[.val (.ref a), .val (.ref b2), .val (.int (0 : Int32)), .unset, .unset, .unset, .unset] []))
  refine OwnGo.fwd (fun tq' kq' => XS.aloadN X2.here hx rfl (hb hby d4_9) rfl rfl kq') ?_
  show OwnGo _ _ _ _ (T2.setTop (mkF m 10 #[.val (.ref a), .val (.ref b2), .val (.int (0 : Int32)), .unset, .unset, .unset, .unset] [(.ref a)]))
  obtain ⟨T3, X3, e3, st3⟩ := getF X2 hx hZ hown (host := "") (Or.inl (hw _ (List.mem_of_getElem? (i := 11) rfl))) Via.refl e2 F_ids_a (g := (mkF m 10 #[.val (.ref a), .val (.ref b2), .val (.int (0 : Int32)), .unset, .unset, .unset, .unset] [(.ref a)])) rfl rfl (hb hby d4_10)
  refine OwnGo.fwd st3 ?_
  show OwnGo _ _ _ _ (T3.setTop (mkF m 13 #[.val (.ref a), .val (.ref b2), .val (.int (0 : Int32)), .unset, .unset, .unset, .unset] [(.ref ia)]))
  refine OwnGo.fwd (fun tq' kq' => XS.astoreN X3.here hx rfl (hb hby d4_13) rfl rfl (l' := #[.val (.ref a), .val (.ref b2), .val (.int (0 : Int32)), .val (.ref ia), .unset, .unset, .unset]) rfl kq') ?_
  show OwnGo _ _ _ _ (T3.setTop (mkF m 14 #[.val (.ref a), .val (.ref b2), .val (.int (0 : Int32)), .val (.ref ia), .unset, .unset, .unset] []))
  refine OwnGo.fwd (fun tq' kq' => XS.aloadN X3.here hx rfl (hb hby d4_14) rfl rfl kq') ?_
  show OwnGo _ _ _ _ (T3.setTop (mkF m 15 #[.val (.ref a), .val (.ref b2), .val (.int (0 : Int32)), .val (.ref ia), .unset, .unset, .unset] [(.ref ia)]))
  refine OwnGo.fwd (fun tq' kq' => own_len X3 hx hZ e3 V_ia (g := (mkF m 15 #[.val (.ref a), .val (.ref b2), .val (.int (0 : Int32)), .val (.ref ia), .unset, .unset, .unset] [(.ref ia)])) rfl rfl (hb hby d4_15) tq' kq') ?_
  show OwnGo _ _ _ _ (T3.setTop (mkF m 16 #[.val (.ref a), .val (.ref b2), .val (.int (0 : Int32)), .val (.ref ia), .unset, .unset, .unset] [(.int (Int32.ofNat 16))]))
  refine OwnGo.fwd (fun tq' kq' => XS.istore X3.here hx rfl (hb hby d4_16) rfl (l' := #[.val (.ref a), .val (.ref b2), .val (.int (0 : Int32)), .val (.ref ia), .val (.int (Int32.ofNat 16)), .unset, .unset]) rfl kq') ?_
  show OwnGo _ _ _ _ (T3.setTop (mkF m 18 #[.val (.ref a), .val (.ref b2), .val (.int (0 : Int32)), .val (.ref ia), .val (.int (Int32.ofNat 16)), .unset, .unset] []))
  refine OwnGo.fwd (fun tq' kq' => XS.iconst X3.here hx rfl (hb hby d4_18) kq') ?_
  show OwnGo _ _ _ _ (T3.setTop (mkF m 19 #[.val (.ref a), .val (.ref b2), .val (.int (0 : Int32)), .val (.ref ia), .val (.int (Int32.ofNat 16)), .unset, .unset] [(.int (0 : Int32))]))
  refine OwnGo.fwd (fun tq' kq' => XS.istore X3.here hx rfl (hb hby d4_19) rfl (l' := #[.val (.ref a), .val (.ref b2), .val (.int (0 : Int32)), .val (.ref ia), .val (.int (Int32.ofNat 16)), .val (.int (0 : Int32)), .unset]) rfl kq') ?_
  show OwnGo _ _ _ _ (T3.setTop (mkF m 21 #[.val (.ref a), .val (.ref b2), .val (.int (0 : Int32)), .val (.ref ia), .val (.int (Int32.ofNat 16)), .val (.int (0 : Int32)), .unset] []))
  have K21 : ∀ (r : Nat), ∀ (i : Nat), i + r = 16 → ∀ (T1 : State) (L1 : List Loc) (h1 : Heap) (u : Nat → Int32) (c2 i5 : Int32) (s6 : Slot), Stand p l e ({ frames := 0, cells := 1, slots := 4, locals := 0 } : Room) s m #[(.ref a)] below meth c T1 L1 (0 + 1) (0 + 4) → T1.heap = h1 → Fr n0 L1 → n0 ≤ h1.size → Keep h0 h1 [] → OwnIA Z h1 ia 16 f → OwnIA Z h1 b2 n u → c2.toInt = (own_cnt f i : Int) → i5.toInt = (i : Int) → One s6 → (∀ j, j < i → f j ≠ 0 → u (own_cnt f j) = f j) → OwnGo p.tables e below (OwnEnd s (Q4 Z a ia na n f g h0 n0) ({ frames := 0, cells := 1, slots := 4, locals := 0 } : Room).cells ({ frames := 0, cells := 1, slots := 4, locals := 0 } : Room).slots) (T1.setTop (mkF m 21 #[.val (.ref a), .val (.ref b2), .val (.int c2), .val (.ref ia), .val (.int (Int32.ofNat 16)), .val (.int i5), s6] [])) := by
    intro r
    induction r with
    | zero =>
      intro i hr T1 L1 h1 u c2 i5 s6 X1 e1 N Zs K V_ia V_b2 hc2 hi5 hs6 hu
      show OwnGo _ _ _ _ (T1.setTop (mkF m 21 #[.val (.ref a), .val (.ref b2), .val (.int c2), .val (.ref ia), .val (.int (Int32.ofNat 16)), .val (.int i5), s6] []))
      refine OwnGo.fwd (fun tq' kq' => XS.iload X1.here hx rfl (hb hby d4_21) rfl kq') ?_
      show OwnGo _ _ _ _ (T1.setTop (mkF m 23 #[.val (.ref a), .val (.ref b2), .val (.int c2), .val (.ref ia), .val (.int (Int32.ofNat 16)), .val (.int i5), s6] [(.int i5)]))
      refine OwnGo.fwd (fun tq' kq' => XS.iload X1.here hx rfl (hb hby d4_23) rfl kq') ?_
      show OwnGo _ _ _ _ (T1.setTop (mkF m 25 #[.val (.ref a), .val (.ref b2), .val (.int c2), .val (.ref ia), .val (.int (Int32.ofNat 16)), .val (.int i5), s6] [(.int (Int32.ofNat 16)), (.int i5)]))
      have hc25_4 : ¬ ((i : Int) < 16) := by omega
      refine OwnGo.fwd (fun tq' kq' => XS.icmpYes X1.here hx rfl (pc0 := 25) (pc' := 53) rfl (hb hby d4_25) rfl (own_bnlt hi5 (by decide) hc25_4).2.1 (by decide) (by decide) kq') ?_
      show OwnGo _ _ _ _ (T1.setTop (mkF m 53 #[.val (.ref a), .val (.ref b2), .val (.int c2), .val (.ref ia), .val (.int (Int32.ofNat 16)), .val (.int i5), s6] []))
      refine OwnGo.fwd (fun tq' kq' => XS.aloadN X1.here hx rfl (hb hby d4_53) rfl rfl kq') ?_
      show OwnGo _ _ _ _ (T1.setTop (mkF m 54 #[.val (.ref a), .val (.ref b2), .val (.int c2), .val (.ref ia), .val (.int (Int32.ofNat 16)), .val (.int i5), s6] [(.ref b2)]))
      exact own_retA X1 hlk hx Bd.returns rfl rfl (hb hby d4_54) (by decide) (by decide) e1 ⟨by rw [g2], N, K, u, g2 ▸ V_b2, fun j hj hf => hu j (by omega) hf⟩
    | succ r ih =>
      intro i hr T1 L1 h1 u c2 i5 s6 X1 e1 N Zs K V_ia V_b2 hc2 hi5 hs6 hu
      show OwnGo _ _ _ _ (T1.setTop (mkF m 21 #[.val (.ref a), .val (.ref b2), .val (.int c2), .val (.ref ia), .val (.int (Int32.ofNat 16)), .val (.int i5), s6] []))
      refine OwnGo.fwd (fun tq' kq' => XS.iload X1.here hx rfl (hb hby d4_21) rfl kq') ?_
      show OwnGo _ _ _ _ (T1.setTop (mkF m 23 #[.val (.ref a), .val (.ref b2), .val (.int c2), .val (.ref ia), .val (.int (Int32.ofNat 16)), .val (.int i5), s6] [(.int i5)]))
      refine OwnGo.fwd (fun tq' kq' => XS.iload X1.here hx rfl (hb hby d4_23) rfl kq') ?_
      show OwnGo _ _ _ _ (T1.setTop (mkF m 25 #[.val (.ref a), .val (.ref b2), .val (.int c2), .val (.ref ia), .val (.int (Int32.ofNat 16)), .val (.int i5), s6] [(.int (Int32.ofNat 16)), (.int i5)]))
      have hc25_5 : (i : Int) < 16 := by omega
      refine OwnGo.fwd (fun tq' kq' => XS.icmpNo X1.here hx rfl (hb hby d4_25) rfl (own_blt hi5 (by decide) hc25_5).2.1 kq') ?_
      show OwnGo _ _ _ _ (T1.setTop (mkF m 28 #[.val (.ref a), .val (.ref b2), .val (.int c2), .val (.ref ia), .val (.int (Int32.ofNat 16)), .val (.int i5), s6] []))
      refine OwnGo.fwd (fun tq' kq' => XS.aloadN X1.here hx rfl (hb hby d4_28) rfl rfl kq') ?_
      show OwnGo _ _ _ _ (T1.setTop (mkF m 29 #[.val (.ref a), .val (.ref b2), .val (.int c2), .val (.ref ia), .val (.int (Int32.ofNat 16)), .val (.int i5), s6] [(.ref ia)]))
      refine OwnGo.fwd (fun tq' kq' => XS.iload X1.here hx rfl (hb hby d4_29) rfl kq') ?_
      show OwnGo _ _ _ _ (T1.setTop (mkF m 31 #[.val (.ref a), .val (.ref b2), .val (.int c2), .val (.ref ia), .val (.int (Int32.ofNat 16)), .val (.int i5), s6] [(.int i5), (.ref ia)]))
      refine OwnGo.fwd (fun tq' kq' => own_iaload X1 hx hZ e1 V_ia (i := i) hi5 (by omega) (g := (mkF m 31 #[.val (.ref a), .val (.ref b2), .val (.int c2), .val (.ref ia), .val (.int (Int32.ofNat 16)), .val (.int i5), s6] [(.int i5), (.ref ia)])) rfl rfl (hb hby d4_31) tq' kq') ?_
      show OwnGo _ _ _ _ (T1.setTop (mkF m 32 #[.val (.ref a), .val (.ref b2), .val (.int c2), .val (.ref ia), .val (.int (Int32.ofNat 16)), .val (.int i5), s6] [(.int (f i))]))
      refine OwnGo.fwd (fun tq' kq' => XS.istoreS X1.here hx rfl (hb hby d4_32) rfl rfl hs6 kq') ?_
      show OwnGo _ _ _ _ (T1.setTop (mkF m 34 #[.val (.ref a), .val (.ref b2), .val (.int c2), .val (.ref ia), .val (.int (Int32.ofNat 16)), .val (.int i5), .val (.int (f i))] []))
      refine OwnGo.fwd (fun tq' kq' => XS.iload X1.here hx rfl (hb hby d4_34) rfl kq') ?_
      show OwnGo _ _ _ _ (T1.setTop (mkF m 36 #[.val (.ref a), .val (.ref b2), .val (.int c2), .val (.ref ia), .val (.int (Int32.ofNat 16)), .val (.int i5), .val (.int (f i))] [(.int (f i))]))
      by_cases hc36_6 : (f i).toInt = 0
      · refine OwnGo.fwd (fun tq' kq' => XS.ifYes X1.here hx rfl (pc0 := 36) (pc' := 47) rfl (hb hby d4_36) rfl ((if0 _ _).trans (own_beq rfl (by decide) hc36_6).1) (by decide) (by decide) kq') ?_
        show OwnGo _ _ _ _ (T1.setTop (mkF m 47 #[.val (.ref a), .val (.ref b2), .val (.int c2), .val (.ref ia), .val (.int (Int32.ofNat 16)), .val (.int i5), .val (.int (f i))] []))
        refine OwnGo.fwd (fun tq' kq' => XS.iinc X1.here hx rfl (hb hby d4_47) rfl (l' := #[.val (.ref a), .val (.ref b2), .val (.int c2), .val (.ref ia), .val (.int (Int32.ofNat 16)), .val (.int (i5 + (1 : Int32))), .val (.int (f i))]) rfl kq') ?_
        refine OwnGo.fwd (fun tq' kq' => XS.goto X1.here hx rfl (pc0 := 50) (pc' := 21) rfl (hb hby d4_50) (by decide) (by decide) kq') ?_
        exact ih (i + 1) (by omega) T1 _ h1 _ _ _ _ X1 e1 N Zs K V_ia V_b2 (by rw [own_cnt_z f i (own_zi hc36_6)]; exact hc2) (own_inc hi5 (by omega)) (One.val rfl) (fun j hj hf => by
          rcases Nat.lt_or_ge j i with q | q
          · exact hu j q hf
          · have e : j = i := by omega
            subst e; exact absurd (own_zi hc36_6) hf)
      · refine OwnGo.fwd (fun tq' kq' => XS.ifNo X1.here hx rfl (hb hby d4_36) rfl ((if0 _ _).trans (own_bneq rfl (by decide) hc36_6).1) kq') ?_
        show OwnGo _ _ _ _ (T1.setTop (mkF m 39 #[.val (.ref a), .val (.ref b2), .val (.int c2), .val (.ref ia), .val (.int (Int32.ofNat 16)), .val (.int i5), .val (.int (f i))] []))
        have hlt : own_cnt f i < n := by rw [← HV.1]; exact own_cnt_lt f (by omega) (own_nz hc36_6)
        refine OwnGo.fwd (fun tq' kq' => XS.aloadN X1.here hx rfl (hb hby d4_39) rfl rfl kq') ?_
        show OwnGo _ _ _ _ (T1.setTop (mkF m 40 #[.val (.ref a), .val (.ref b2), .val (.int c2), .val (.ref ia), .val (.int (Int32.ofNat 16)), .val (.int i5), .val (.int (f i))] [(.ref b2)]))
        refine OwnGo.fwd (fun tq' kq' => XS.iloadN X1.here hx rfl (hb hby d4_40) rfl kq') ?_
        show OwnGo _ _ _ _ (T1.setTop (mkF m 41 #[.val (.ref a), .val (.ref b2), .val (.int c2), .val (.ref ia), .val (.int (Int32.ofNat 16)), .val (.int i5), .val (.int (f i))] [(.int c2), (.ref b2)]))
        refine OwnGo.fwd (fun tq' kq' => XS.iinc X1.here hx rfl (hb hby d4_41) rfl (l' := #[.val (.ref a), .val (.ref b2), .val (.int (c2 + (1 : Int32))), .val (.ref ia), .val (.int (Int32.ofNat 16)), .val (.int i5), .val (.int (f i))]) rfl kq') ?_
        show OwnGo _ _ _ _ (T1.setTop (mkF m 44 #[.val (.ref a), .val (.ref b2), .val (.int (c2 + (1 : Int32))), .val (.ref ia), .val (.int (Int32.ofNat 16)), .val (.int i5), .val (.int (f i))] [(.int c2), (.ref b2)]))
        refine OwnGo.fwd (fun tq' kq' => XS.iload X1.here hx rfl (hb hby d4_44) rfl kq') ?_
        show OwnGo _ _ _ _ (T1.setTop (mkF m 46 #[.val (.ref a), .val (.ref b2), .val (.int (c2 + (1 : Int32))), .val (.ref ia), .val (.int (Int32.ofNat 16)), .val (.int i5), .val (.int (f i))] [(.int (f i)), (.int c2), (.ref b2)]))
        obtain ⟨T7, h7, X7, e7, W7, V7, st7⟩ := own_iastore X1 hx hZ e1 V_b2 (i := (own_cnt f i)) hc2 hlt (g := (mkF m 46 #[.val (.ref a), .val (.ref b2), .val (.int (c2 + (1 : Int32))), .val (.ref ia), .val (.int (Int32.ofNat 16)), .val (.int i5), .val (.int (f i))] [(.int (f i)), (.int c2), (.ref b2)])) rfl rfl (hb hby d4_46)
        have V_ia := V_ia.other W7 ne_ia_b2
        have K := K.wr W7 (Or.inr sz_b2)
        have Zs := Nat.le_trans Zs (Keep.of_wr W7).1
        have N := Fr.snoc X7 N g_b2
        have V_b2 := V7
        refine OwnGo.fwd st7 ?_
        show OwnGo _ _ _ _ (T7.setTop (mkF m 47 #[.val (.ref a), .val (.ref b2), .val (.int (c2 + (1 : Int32))), .val (.ref ia), .val (.int (Int32.ofNat 16)), .val (.int i5), .val (.int (f i))] []))
        refine OwnGo.fwd (fun tq' kq' => XS.iinc X7.here hx rfl (hb hby d4_47) rfl (l' := #[.val (.ref a), .val (.ref b2), .val (.int (c2 + (1 : Int32))), .val (.ref ia), .val (.int (Int32.ofNat 16)), .val (.int (i5 + (1 : Int32))), .val (.int (f i))]) rfl kq') ?_
        refine OwnGo.fwd (fun tq' kq' => XS.goto X7.here hx rfl (pc0 := 50) (pc' := 21) rfl (hb hby d4_50) (by decide) (by decide) kq') ?_
        exact ih (i + 1) (by omega) T7 _ h7 _ _ _ _ X7 e7 N Zs K V_ia V_b2 (by rw [own_cnt_s f i (own_nz hc36_6)]; exact own_inc hc2 (by omega)) (own_inc hi5 (by omega)) (One.val rfl) (fun j hj hf => by
          show (if own_cnt f j = own_cnt f i then f i else u (own_cnt f j)) = f j
          rcases Nat.lt_or_ge j i with q | q
          · rw [if_neg (Nat.ne_of_lt (own_cnt_lt f q hf))]; exact hu j q hf
          · rw [show j = i by omega, if_pos rfl])
  exact K21 16 0 (by omega) T3 _ h2 _ _ _ _ (X3) e3 N Zs K V_ia V_b2 (by rfl) (by rfl) One.u (fun j hj => absurd hj (Nat.not_lt_zero _))
theorem d7_0 : decode method_3_code 0 = .ok (.aload_n 0, 1) := by decide +kernel
theorem d7_1 : decode method_3_code 1 = .ok (.arraylength, 1) := by decide +kernel
theorem d7_2 : decode method_3_code 2 = .ok (.ifCond .le 10, 3) := by decide +kernel
theorem d7_5 : decode method_3_code 5 = .ok (.aload_n 0, 1) := by decide +kernel
theorem d7_6 : decode method_3_code 6 = .ok (.iconst 0, 1) := by decide +kernel
theorem d7_7 : decode method_3_code 7 = .ok (.iaload, 1) := by decide +kernel
theorem d7_8 : decode method_3_code 8 = .ok (.iload_n 1, 1) := by decide +kernel
theorem d7_9 : decode method_3_code 9 = .ok (.if_icmp .eq 42, 3) := by decide +kernel
theorem d7_12 : decode method_3_code 12 = .ok (.aload_n 0, 1) := by decide +kernel
theorem d7_13 : decode method_3_code 13 = .ok (.arraylength, 1) := by decide +kernel
theorem d7_14 : decode method_3_code 14 = .ok (.iconst 1, 1) := by decide +kernel
theorem d7_15 : decode method_3_code 15 = .ok (.if_icmp .le 10, 3) := by decide +kernel
theorem d7_18 : decode method_3_code 18 = .ok (.aload_n 0, 1) := by decide +kernel
theorem d7_19 : decode method_3_code 19 = .ok (.iconst 1, 1) := by decide +kernel
theorem d7_20 : decode method_3_code 20 = .ok (.iaload, 1) := by decide +kernel
theorem d7_21 : decode method_3_code 21 = .ok (.iload_n 1, 1) := by decide +kernel
theorem d7_22 : decode method_3_code 22 = .ok (.if_icmp .eq 29, 3) := by decide +kernel
theorem d7_25 : decode method_3_code 25 = .ok (.aload_n 0, 1) := by decide +kernel
theorem d7_26 : decode method_3_code 26 = .ok (.arraylength, 1) := by decide +kernel
theorem d7_27 : decode method_3_code 27 = .ok (.iconst 2, 1) := by decide +kernel
theorem d7_28 : decode method_3_code 28 = .ok (.if_icmp .le 10, 3) := by decide +kernel
theorem d7_31 : decode method_3_code 31 = .ok (.aload_n 0, 1) := by decide +kernel
theorem d7_32 : decode method_3_code 32 = .ok (.iconst 2, 1) := by decide +kernel
theorem d7_33 : decode method_3_code 33 = .ok (.iaload, 1) := by decide +kernel
theorem d7_34 : decode method_3_code 34 = .ok (.iload_n 1, 1) := by decide +kernel
theorem d7_35 : decode method_3_code 35 = .ok (.if_icmp .eq 16, 3) := by decide +kernel
theorem d7_38 : decode method_3_code 38 = .ok (.aload_n 0, 1) := by decide +kernel
theorem d7_39 : decode method_3_code 39 = .ok (.arraylength, 1) := by decide +kernel
theorem d7_40 : decode method_3_code 40 = .ok (.iconst 3, 1) := by decide +kernel
theorem d7_41 : decode method_3_code 41 = .ok (.if_icmp .le 14, 3) := by decide +kernel
theorem d7_44 : decode method_3_code 44 = .ok (.aload_n 0, 1) := by decide +kernel
theorem d7_45 : decode method_3_code 45 = .ok (.iconst 3, 1) := by decide +kernel
theorem d7_46 : decode method_3_code 46 = .ok (.iaload, 1) := by decide +kernel
theorem d7_47 : decode method_3_code 47 = .ok (.iload_n 1, 1) := by decide +kernel
theorem d7_48 : decode method_3_code 48 = .ok (.if_icmp .ne 7, 3) := by decide +kernel
theorem d7_51 : decode method_3_code 51 = .ok (.iconst 1, 1) := by decide +kernel
theorem d7_52 : decode method_3_code 52 = .ok (.goto 4, 3) := by decide +kernel
theorem d7_55 : decode method_3_code 55 = .ok (.iconst 0, 1) := by decide +kernel
theorem d7_56 : decode method_3_code 56 = .ok (.ireturn, 1) := by decide +kernel
theorem pn_7 : plainFor (⟨"com/example/rolestack/rolestack/NumbersByIdIdsPinLaw", "has", "([II)Z"⟩ : MethodName) = true := plainFor_of_name (by first | (simp [plainName, overriddenIn]; done) | decide +kernel)
theorem ef_7 (m : MethodId) (x0 : Addr) (x1 : Int32) : entryFrame m #[(.ref x0), (.int x1)] 2 = mkF m 0 #[.val (.ref x0), .val (.int x1)] [] := by first | (simp [entryFrame, mkF, argsToLocals, Value.category, maxLocals]; done) | rfl
def Q7 (Z : State) (r : Addr) (n : Nat) (u : Nat → Int32) (x : Int32) (h0 : Heap) (n0 : Nat) (v : Option Value) (h : Heap) (L : List Loc) : Prop := v = some (.int 1) ∧ Fr n0 L ∧ h = h0
set_option maxRecDepth 65536 in
set_option maxHeartbeats 40000000 in
theorem rm7 (l : Launch) (Z : State) (a0 : Array Value) (hw : ∀ d ∈ tables_1, d.before a0 Z = true) (ws : List Jvm.Cond) (r : Addr) (n : Nat) (u : Nat → Int32) (x : Int32) (h0 : Heap) (n0 : Nat) (Z0 : n0 ≤ h0.size) (V_r : OwnIA Z h0 r n u) (hn : n ≤ 4) (hx' : ∃ k, k < n ∧ u k = x) :
    MetFree l (⟨"com/example/rolestack/rolestack/NumbersByIdIdsPinLaw", "has", "([II)Z"⟩ : MethodName) (head1 (Jvm.Cond.code (⟨"com/example/rolestack/rolestack/NumbersByIdIdsPinLaw", "has", "([II)Z"⟩ : MethodName) method_3_code 2 (some .boolean) :: ws) ({ frames := 0, cells := 0, slots := 0, locals := 0 } : Room)) (fun arr' U => arr' = #[(.ref r), (.int x)] ∧ Z.Warmed39 U.vm ∧ U.heap = h0) (fun _ _ _ _ _ => True) (fun _ U o U' => ∃ v L, o = .returned v ∧ (Q7 Z r n u x h0 n0) v U'.heap L ∧ FrameEnd U o U' L ({ frames := 0, cells := 0, slots := 0, locals := 0 } : Room).cells ({ frames := 0, cells := 0, slots := 0, locals := 0 } : Room).slots) := by
  refine MetFree.of_bodySF pn_7 hisR ?_
  intro p e s m args below meth c s₁ Bd hml0 hP hK
  obtain ⟨rfl, hZ, hh⟩ := hP
  have hx := Bd.exec
  have hby := Bd.bytes
  have hlk : meth.locks = false := BodyLoose.notSynchronized Bd
  have hml : c.maxLocals = 2 := hml0
  have hown : s.vm.findClass "com/example/rolestack/rolestack/NumbersByIdIdsPinLaw" = some m.cls := findClass_of_methodNamed Bd.named
  have hnm := (name_of_methodNamed Bd.named Bd.method).1
  have X0 : Stand p l e ({ frames := 0, cells := 0, slots := 0, locals := 0 } : Room) s m #[(.ref r), (.int x)] below meth c s₁ [] 0 0 := Stand.of_body Bd
  have e0 : s₁.heap = h0 := by rw [← hh, Bd.state]; rfl
  have N := Fr.nil n0
  have Zs := Z0
  change OwnGo p.tables e below (OwnEnd s (Q7 Z r n u x h0 n0) ({ frames := 0, cells := 0, slots := 0, locals := 0 } : Room).cells ({ frames := 0, cells := 0, slots := 0, locals := 0 } : Room).slots) _
  refine OwnGo.fwd (fun tq' kq' => castTop (ef_7 m r x) kq') ?_
  show OwnGo _ _ _ _ (s₁.setTop (mkF m 0 #[.val (.ref r), .val (.int x)] []))
  have hi_n : (Int32.ofNat n).toInt = (n : Int) := own_ofNat (by omega)
  refine OwnGo.fwd (fun tq' kq' => XS.aloadN X0.here hx rfl (hb hby d7_0) rfl rfl kq') ?_
  show OwnGo _ _ _ _ (s₁.setTop (mkF m 1 #[.val (.ref r), .val (.int x)] [(.ref r)]))
  refine OwnGo.fwd (fun tq' kq' => own_len X0 hx hZ e0 V_r (g := (mkF m 1 #[.val (.ref r), .val (.int x)] [(.ref r)])) rfl rfl (hb hby d7_1) tq' kq') ?_
  show OwnGo _ _ _ _ (s₁.setTop (mkF m 2 #[.val (.ref r), .val (.int x)] [(.int (Int32.ofNat n))]))
  by_cases hc2_1 : 0 < (n : Int)
  · refine OwnGo.fwd (fun tq' kq' => XS.ifNo X0.here hx rfl (hb hby d7_2) rfl ((if0 _ _).trans (own_blt (by decide) hi_n hc2_1).2.2.2) kq') ?_
    show OwnGo _ _ _ _ (s₁.setTop (mkF m 5 #[.val (.ref r), .val (.int x)] []))
    refine OwnGo.fwd (fun tq' kq' => XS.aloadN X0.here hx rfl (hb hby d7_5) rfl rfl kq') ?_
    show OwnGo _ _ _ _ (s₁.setTop (mkF m 6 #[.val (.ref r), .val (.int x)] [(.ref r)]))
    refine OwnGo.fwd (fun tq' kq' => XS.iconst X0.here hx rfl (hb hby d7_6) kq') ?_
    show OwnGo _ _ _ _ (s₁.setTop (mkF m 7 #[.val (.ref r), .val (.int x)] [(.int (0 : Int32)), (.ref r)]))
    refine OwnGo.fwd (fun tq' kq' => own_iaload X0 hx hZ e0 V_r (i := 0) (by decide) (by omega) (g := (mkF m 7 #[.val (.ref r), .val (.int x)] [(.int (0 : Int32)), (.ref r)])) rfl rfl (hb hby d7_7) tq' kq') ?_
    show OwnGo _ _ _ _ (s₁.setTop (mkF m 8 #[.val (.ref r), .val (.int x)] [(.int (u 0))]))
    refine OwnGo.fwd (fun tq' kq' => XS.iloadN X0.here hx rfl (hb hby d7_8) rfl kq') ?_
    show OwnGo _ _ _ _ (s₁.setTop (mkF m 9 #[.val (.ref r), .val (.int x)] [(.int x), (.int (u 0))]))
    by_cases hc9_2 : (u 0).toInt = x.toInt
    · refine OwnGo.fwd (fun tq' kq' => XS.icmpYes X0.here hx rfl (pc0 := 9) (pc' := 51) rfl (hb hby d7_9) rfl (own_beq rfl rfl hc9_2).1 (by decide) (by decide) kq') ?_
      show OwnGo _ _ _ _ (s₁.setTop (mkF m 51 #[.val (.ref r), .val (.int x)] []))
      refine OwnGo.fwd (fun tq' kq' => XS.iconst X0.here hx rfl (hb hby d7_51) kq') ?_
      show OwnGo _ _ _ _ (s₁.setTop (mkF m 52 #[.val (.ref r), .val (.int x)] [(.int (1 : Int32))]))
      refine OwnGo.fwd (fun tq' kq' => XS.goto X0.here hx rfl (pc0 := 52) (pc' := 56) rfl (hb hby d7_52) (by decide) (by decide) kq') ?_
      show OwnGo _ _ _ _ (s₁.setTop (mkF m 56 #[.val (.ref r), .val (.int x)] [(.int (1 : Int32))]))
      exact own_retZ X0 hlk hx Bd.returns (hb hby d7_56) (by decide) (by decide) e0 ⟨rfl, N, rfl⟩
    · refine OwnGo.fwd (fun tq' kq' => XS.icmpNo X0.here hx rfl (hb hby d7_9) rfl (own_bneq rfl rfl hc9_2).1 kq') ?_
      show OwnGo _ _ _ _ (s₁.setTop (mkF m 12 #[.val (.ref r), .val (.int x)] []))
      refine OwnGo.fwd (fun tq' kq' => XS.aloadN X0.here hx rfl (hb hby d7_12) rfl rfl kq') ?_
      show OwnGo _ _ _ _ (s₁.setTop (mkF m 13 #[.val (.ref r), .val (.int x)] [(.ref r)]))
      refine OwnGo.fwd (fun tq' kq' => own_len X0 hx hZ e0 V_r (g := (mkF m 13 #[.val (.ref r), .val (.int x)] [(.ref r)])) rfl rfl (hb hby d7_13) tq' kq') ?_
      show OwnGo _ _ _ _ (s₁.setTop (mkF m 14 #[.val (.ref r), .val (.int x)] [(.int (Int32.ofNat n))]))
      refine OwnGo.fwd (fun tq' kq' => XS.iconst X0.here hx rfl (hb hby d7_14) kq') ?_
      show OwnGo _ _ _ _ (s₁.setTop (mkF m 15 #[.val (.ref r), .val (.int x)] [(.int (1 : Int32)), (.int (Int32.ofNat n))]))
      by_cases hc15_3 : 1 < (n : Int)
      · refine OwnGo.fwd (fun tq' kq' => XS.icmpNo X0.here hx rfl (hb hby d7_15) rfl (own_blt (by decide) hi_n hc15_3).2.2.2 kq') ?_
        show OwnGo _ _ _ _ (s₁.setTop (mkF m 18 #[.val (.ref r), .val (.int x)] []))
        refine OwnGo.fwd (fun tq' kq' => XS.aloadN X0.here hx rfl (hb hby d7_18) rfl rfl kq') ?_
        show OwnGo _ _ _ _ (s₁.setTop (mkF m 19 #[.val (.ref r), .val (.int x)] [(.ref r)]))
        refine OwnGo.fwd (fun tq' kq' => XS.iconst X0.here hx rfl (hb hby d7_19) kq') ?_
        show OwnGo _ _ _ _ (s₁.setTop (mkF m 20 #[.val (.ref r), .val (.int x)] [(.int (1 : Int32)), (.ref r)]))
        refine OwnGo.fwd (fun tq' kq' => own_iaload X0 hx hZ e0 V_r (i := 1) (by decide) (by omega) (g := (mkF m 20 #[.val (.ref r), .val (.int x)] [(.int (1 : Int32)), (.ref r)])) rfl rfl (hb hby d7_20) tq' kq') ?_
        show OwnGo _ _ _ _ (s₁.setTop (mkF m 21 #[.val (.ref r), .val (.int x)] [(.int (u 1))]))
        refine OwnGo.fwd (fun tq' kq' => XS.iloadN X0.here hx rfl (hb hby d7_21) rfl kq') ?_
        show OwnGo _ _ _ _ (s₁.setTop (mkF m 22 #[.val (.ref r), .val (.int x)] [(.int x), (.int (u 1))]))
        by_cases hc22_4 : (u 1).toInt = x.toInt
        · refine OwnGo.fwd (fun tq' kq' => XS.icmpYes X0.here hx rfl (pc0 := 22) (pc' := 51) rfl (hb hby d7_22) rfl (own_beq rfl rfl hc22_4).1 (by decide) (by decide) kq') ?_
          show OwnGo _ _ _ _ (s₁.setTop (mkF m 51 #[.val (.ref r), .val (.int x)] []))
          refine OwnGo.fwd (fun tq' kq' => XS.iconst X0.here hx rfl (hb hby d7_51) kq') ?_
          show OwnGo _ _ _ _ (s₁.setTop (mkF m 52 #[.val (.ref r), .val (.int x)] [(.int (1 : Int32))]))
          refine OwnGo.fwd (fun tq' kq' => XS.goto X0.here hx rfl (pc0 := 52) (pc' := 56) rfl (hb hby d7_52) (by decide) (by decide) kq') ?_
          show OwnGo _ _ _ _ (s₁.setTop (mkF m 56 #[.val (.ref r), .val (.int x)] [(.int (1 : Int32))]))
          exact own_retZ X0 hlk hx Bd.returns (hb hby d7_56) (by decide) (by decide) e0 ⟨rfl, N, rfl⟩
        · refine OwnGo.fwd (fun tq' kq' => XS.icmpNo X0.here hx rfl (hb hby d7_22) rfl (own_bneq rfl rfl hc22_4).1 kq') ?_
          show OwnGo _ _ _ _ (s₁.setTop (mkF m 25 #[.val (.ref r), .val (.int x)] []))
          refine OwnGo.fwd (fun tq' kq' => XS.aloadN X0.here hx rfl (hb hby d7_25) rfl rfl kq') ?_
          show OwnGo _ _ _ _ (s₁.setTop (mkF m 26 #[.val (.ref r), .val (.int x)] [(.ref r)]))
          refine OwnGo.fwd (fun tq' kq' => own_len X0 hx hZ e0 V_r (g := (mkF m 26 #[.val (.ref r), .val (.int x)] [(.ref r)])) rfl rfl (hb hby d7_26) tq' kq') ?_
          show OwnGo _ _ _ _ (s₁.setTop (mkF m 27 #[.val (.ref r), .val (.int x)] [(.int (Int32.ofNat n))]))
          refine OwnGo.fwd (fun tq' kq' => XS.iconst X0.here hx rfl (hb hby d7_27) kq') ?_
          show OwnGo _ _ _ _ (s₁.setTop (mkF m 28 #[.val (.ref r), .val (.int x)] [(.int (2 : Int32)), (.int (Int32.ofNat n))]))
          by_cases hc28_5 : 2 < (n : Int)
          · refine OwnGo.fwd (fun tq' kq' => XS.icmpNo X0.here hx rfl (hb hby d7_28) rfl (own_blt (by decide) hi_n hc28_5).2.2.2 kq') ?_
            show OwnGo _ _ _ _ (s₁.setTop (mkF m 31 #[.val (.ref r), .val (.int x)] []))
            refine OwnGo.fwd (fun tq' kq' => XS.aloadN X0.here hx rfl (hb hby d7_31) rfl rfl kq') ?_
            show OwnGo _ _ _ _ (s₁.setTop (mkF m 32 #[.val (.ref r), .val (.int x)] [(.ref r)]))
            refine OwnGo.fwd (fun tq' kq' => XS.iconst X0.here hx rfl (hb hby d7_32) kq') ?_
            show OwnGo _ _ _ _ (s₁.setTop (mkF m 33 #[.val (.ref r), .val (.int x)] [(.int (2 : Int32)), (.ref r)]))
            refine OwnGo.fwd (fun tq' kq' => own_iaload X0 hx hZ e0 V_r (i := 2) (by decide) (by omega) (g := (mkF m 33 #[.val (.ref r), .val (.int x)] [(.int (2 : Int32)), (.ref r)])) rfl rfl (hb hby d7_33) tq' kq') ?_
            show OwnGo _ _ _ _ (s₁.setTop (mkF m 34 #[.val (.ref r), .val (.int x)] [(.int (u 2))]))
            refine OwnGo.fwd (fun tq' kq' => XS.iloadN X0.here hx rfl (hb hby d7_34) rfl kq') ?_
            show OwnGo _ _ _ _ (s₁.setTop (mkF m 35 #[.val (.ref r), .val (.int x)] [(.int x), (.int (u 2))]))
            by_cases hc35_6 : (u 2).toInt = x.toInt
            · refine OwnGo.fwd (fun tq' kq' => XS.icmpYes X0.here hx rfl (pc0 := 35) (pc' := 51) rfl (hb hby d7_35) rfl (own_beq rfl rfl hc35_6).1 (by decide) (by decide) kq') ?_
              show OwnGo _ _ _ _ (s₁.setTop (mkF m 51 #[.val (.ref r), .val (.int x)] []))
              refine OwnGo.fwd (fun tq' kq' => XS.iconst X0.here hx rfl (hb hby d7_51) kq') ?_
              show OwnGo _ _ _ _ (s₁.setTop (mkF m 52 #[.val (.ref r), .val (.int x)] [(.int (1 : Int32))]))
              refine OwnGo.fwd (fun tq' kq' => XS.goto X0.here hx rfl (pc0 := 52) (pc' := 56) rfl (hb hby d7_52) (by decide) (by decide) kq') ?_
              show OwnGo _ _ _ _ (s₁.setTop (mkF m 56 #[.val (.ref r), .val (.int x)] [(.int (1 : Int32))]))
              exact own_retZ X0 hlk hx Bd.returns (hb hby d7_56) (by decide) (by decide) e0 ⟨rfl, N, rfl⟩
            · refine OwnGo.fwd (fun tq' kq' => XS.icmpNo X0.here hx rfl (hb hby d7_35) rfl (own_bneq rfl rfl hc35_6).1 kq') ?_
              show OwnGo _ _ _ _ (s₁.setTop (mkF m 38 #[.val (.ref r), .val (.int x)] []))
              refine OwnGo.fwd (fun tq' kq' => XS.aloadN X0.here hx rfl (hb hby d7_38) rfl rfl kq') ?_
              show OwnGo _ _ _ _ (s₁.setTop (mkF m 39 #[.val (.ref r), .val (.int x)] [(.ref r)]))
              refine OwnGo.fwd (fun tq' kq' => own_len X0 hx hZ e0 V_r (g := (mkF m 39 #[.val (.ref r), .val (.int x)] [(.ref r)])) rfl rfl (hb hby d7_39) tq' kq') ?_
              show OwnGo _ _ _ _ (s₁.setTop (mkF m 40 #[.val (.ref r), .val (.int x)] [(.int (Int32.ofNat n))]))
              refine OwnGo.fwd (fun tq' kq' => XS.iconst X0.here hx rfl (hb hby d7_40) kq') ?_
              show OwnGo _ _ _ _ (s₁.setTop (mkF m 41 #[.val (.ref r), .val (.int x)] [(.int (3 : Int32)), (.int (Int32.ofNat n))]))
              by_cases hc41_7 : 3 < (n : Int)
              · refine OwnGo.fwd (fun tq' kq' => XS.icmpNo X0.here hx rfl (hb hby d7_41) rfl (own_blt (by decide) hi_n hc41_7).2.2.2 kq') ?_
                show OwnGo _ _ _ _ (s₁.setTop (mkF m 44 #[.val (.ref r), .val (.int x)] []))
                refine OwnGo.fwd (fun tq' kq' => XS.aloadN X0.here hx rfl (hb hby d7_44) rfl rfl kq') ?_
                show OwnGo _ _ _ _ (s₁.setTop (mkF m 45 #[.val (.ref r), .val (.int x)] [(.ref r)]))
                refine OwnGo.fwd (fun tq' kq' => XS.iconst X0.here hx rfl (hb hby d7_45) kq') ?_
                show OwnGo _ _ _ _ (s₁.setTop (mkF m 46 #[.val (.ref r), .val (.int x)] [(.int (3 : Int32)), (.ref r)]))
                refine OwnGo.fwd (fun tq' kq' => own_iaload X0 hx hZ e0 V_r (i := 3) (by decide) (by omega) (g := (mkF m 46 #[.val (.ref r), .val (.int x)] [(.int (3 : Int32)), (.ref r)])) rfl rfl (hb hby d7_46) tq' kq') ?_
                show OwnGo _ _ _ _ (s₁.setTop (mkF m 47 #[.val (.ref r), .val (.int x)] [(.int (u 3))]))
                refine OwnGo.fwd (fun tq' kq' => XS.iloadN X0.here hx rfl (hb hby d7_47) rfl kq') ?_
                show OwnGo _ _ _ _ (s₁.setTop (mkF m 48 #[.val (.ref r), .val (.int x)] [(.int x), (.int (u 3))]))
                by_cases hc48_8 : (u 3).toInt = x.toInt
                · refine OwnGo.fwd (fun tq' kq' => XS.icmpNo X0.here hx rfl (hb hby d7_48) rfl (own_beq rfl rfl hc48_8).2 kq') ?_
                  show OwnGo _ _ _ _ (s₁.setTop (mkF m 51 #[.val (.ref r), .val (.int x)] []))
                  refine OwnGo.fwd (fun tq' kq' => XS.iconst X0.here hx rfl (hb hby d7_51) kq') ?_
                  show OwnGo _ _ _ _ (s₁.setTop (mkF m 52 #[.val (.ref r), .val (.int x)] [(.int (1 : Int32))]))
                  refine OwnGo.fwd (fun tq' kq' => XS.goto X0.here hx rfl (pc0 := 52) (pc' := 56) rfl (hb hby d7_52) (by decide) (by decide) kq') ?_
                  show OwnGo _ _ _ _ (s₁.setTop (mkF m 56 #[.val (.ref r), .val (.int x)] [(.int (1 : Int32))]))
                  exact own_retZ X0 hlk hx Bd.returns (hb hby d7_56) (by decide) (by decide) e0 ⟨rfl, N, rfl⟩
                · refine OwnGo.fwd (fun tq' kq' => XS.icmpYes X0.here hx rfl (pc0 := 48) (pc' := 55) rfl (hb hby d7_48) rfl (own_bneq rfl rfl hc48_8).2 (by decide) (by decide) kq') ?_
                  show OwnGo _ _ _ _ (s₁.setTop (mkF m 55 #[.val (.ref r), .val (.int x)] []))
                  exfalso
                  obtain ⟨k, hk, e⟩ := hx'
                  have e := congrArg Int32.toInt e
                  have : k = 0 ∨ k = 1 ∨ k = 2 ∨ k = 3 := by omega
                  rcases this with rfl | rfl | rfl | rfl <;> omega
              · refine OwnGo.fwd (fun tq' kq' => XS.icmpYes X0.here hx rfl (pc0 := 41) (pc' := 55) rfl (hb hby d7_41) rfl (own_bnlt (by decide) hi_n hc41_7).2.2.2 (by decide) (by decide) kq') ?_
                show OwnGo _ _ _ _ (s₁.setTop (mkF m 55 #[.val (.ref r), .val (.int x)] []))
                exfalso
                obtain ⟨k, hk, e⟩ := hx'
                have e := congrArg Int32.toInt e
                have : k = 0 ∨ k = 1 ∨ k = 2 ∨ k = 3 := by omega
                rcases this with rfl | rfl | rfl | rfl <;> omega
          · refine OwnGo.fwd (fun tq' kq' => XS.icmpYes X0.here hx rfl (pc0 := 28) (pc' := 38) rfl (hb hby d7_28) rfl (own_bnlt (by decide) hi_n hc28_5).2.2.2 (by decide) (by decide) kq') ?_
            show OwnGo _ _ _ _ (s₁.setTop (mkF m 38 #[.val (.ref r), .val (.int x)] []))
            refine OwnGo.fwd (fun tq' kq' => XS.aloadN X0.here hx rfl (hb hby d7_38) rfl rfl kq') ?_
            show OwnGo _ _ _ _ (s₁.setTop (mkF m 39 #[.val (.ref r), .val (.int x)] [(.ref r)]))
            refine OwnGo.fwd (fun tq' kq' => own_len X0 hx hZ e0 V_r (g := (mkF m 39 #[.val (.ref r), .val (.int x)] [(.ref r)])) rfl rfl (hb hby d7_39) tq' kq') ?_
            show OwnGo _ _ _ _ (s₁.setTop (mkF m 40 #[.val (.ref r), .val (.int x)] [(.int (Int32.ofNat n))]))
            refine OwnGo.fwd (fun tq' kq' => XS.iconst X0.here hx rfl (hb hby d7_40) kq') ?_
            show OwnGo _ _ _ _ (s₁.setTop (mkF m 41 #[.val (.ref r), .val (.int x)] [(.int (3 : Int32)), (.int (Int32.ofNat n))]))
            by_cases hc41_9 : 3 < (n : Int)
            · refine OwnGo.fwd (fun tq' kq' => XS.icmpNo X0.here hx rfl (hb hby d7_41) rfl (own_blt (by decide) hi_n hc41_9).2.2.2 kq') ?_
              show OwnGo _ _ _ _ (s₁.setTop (mkF m 44 #[.val (.ref r), .val (.int x)] []))
              refine OwnGo.fwd (fun tq' kq' => XS.aloadN X0.here hx rfl (hb hby d7_44) rfl rfl kq') ?_
              show OwnGo _ _ _ _ (s₁.setTop (mkF m 45 #[.val (.ref r), .val (.int x)] [(.ref r)]))
              refine OwnGo.fwd (fun tq' kq' => XS.iconst X0.here hx rfl (hb hby d7_45) kq') ?_
              show OwnGo _ _ _ _ (s₁.setTop (mkF m 46 #[.val (.ref r), .val (.int x)] [(.int (3 : Int32)), (.ref r)]))
              refine OwnGo.fwd (fun tq' kq' => own_iaload X0 hx hZ e0 V_r (i := 3) (by decide) (by omega) (g := (mkF m 46 #[.val (.ref r), .val (.int x)] [(.int (3 : Int32)), (.ref r)])) rfl rfl (hb hby d7_46) tq' kq') ?_
              show OwnGo _ _ _ _ (s₁.setTop (mkF m 47 #[.val (.ref r), .val (.int x)] [(.int (u 3))]))
              refine OwnGo.fwd (fun tq' kq' => XS.iloadN X0.here hx rfl (hb hby d7_47) rfl kq') ?_
              show OwnGo _ _ _ _ (s₁.setTop (mkF m 48 #[.val (.ref r), .val (.int x)] [(.int x), (.int (u 3))]))
              by_cases hc48_10 : (u 3).toInt = x.toInt
              · refine OwnGo.fwd (fun tq' kq' => XS.icmpNo X0.here hx rfl (hb hby d7_48) rfl (own_beq rfl rfl hc48_10).2 kq') ?_
                show OwnGo _ _ _ _ (s₁.setTop (mkF m 51 #[.val (.ref r), .val (.int x)] []))
                refine OwnGo.fwd (fun tq' kq' => XS.iconst X0.here hx rfl (hb hby d7_51) kq') ?_
                show OwnGo _ _ _ _ (s₁.setTop (mkF m 52 #[.val (.ref r), .val (.int x)] [(.int (1 : Int32))]))
                refine OwnGo.fwd (fun tq' kq' => XS.goto X0.here hx rfl (pc0 := 52) (pc' := 56) rfl (hb hby d7_52) (by decide) (by decide) kq') ?_
                show OwnGo _ _ _ _ (s₁.setTop (mkF m 56 #[.val (.ref r), .val (.int x)] [(.int (1 : Int32))]))
                exact own_retZ X0 hlk hx Bd.returns (hb hby d7_56) (by decide) (by decide) e0 ⟨rfl, N, rfl⟩
              · refine OwnGo.fwd (fun tq' kq' => XS.icmpYes X0.here hx rfl (pc0 := 48) (pc' := 55) rfl (hb hby d7_48) rfl (own_bneq rfl rfl hc48_10).2 (by decide) (by decide) kq') ?_
                show OwnGo _ _ _ _ (s₁.setTop (mkF m 55 #[.val (.ref r), .val (.int x)] []))
                exfalso
                obtain ⟨k, hk, e⟩ := hx'
                have e := congrArg Int32.toInt e
                have : k = 0 ∨ k = 1 ∨ k = 2 ∨ k = 3 := by omega
                rcases this with rfl | rfl | rfl | rfl <;> omega
            · refine OwnGo.fwd (fun tq' kq' => XS.icmpYes X0.here hx rfl (pc0 := 41) (pc' := 55) rfl (hb hby d7_41) rfl (own_bnlt (by decide) hi_n hc41_9).2.2.2 (by decide) (by decide) kq') ?_
              show OwnGo _ _ _ _ (s₁.setTop (mkF m 55 #[.val (.ref r), .val (.int x)] []))
              exfalso
              obtain ⟨k, hk, e⟩ := hx'
              have e := congrArg Int32.toInt e
              have : k = 0 ∨ k = 1 ∨ k = 2 ∨ k = 3 := by omega
              rcases this with rfl | rfl | rfl | rfl <;> omega
      · refine OwnGo.fwd (fun tq' kq' => XS.icmpYes X0.here hx rfl (pc0 := 15) (pc' := 25) rfl (hb hby d7_15) rfl (own_bnlt (by decide) hi_n hc15_3).2.2.2 (by decide) (by decide) kq') ?_
        show OwnGo _ _ _ _ (s₁.setTop (mkF m 25 #[.val (.ref r), .val (.int x)] []))
        refine OwnGo.fwd (fun tq' kq' => XS.aloadN X0.here hx rfl (hb hby d7_25) rfl rfl kq') ?_
        show OwnGo _ _ _ _ (s₁.setTop (mkF m 26 #[.val (.ref r), .val (.int x)] [(.ref r)]))
        refine OwnGo.fwd (fun tq' kq' => own_len X0 hx hZ e0 V_r (g := (mkF m 26 #[.val (.ref r), .val (.int x)] [(.ref r)])) rfl rfl (hb hby d7_26) tq' kq') ?_
        show OwnGo _ _ _ _ (s₁.setTop (mkF m 27 #[.val (.ref r), .val (.int x)] [(.int (Int32.ofNat n))]))
        refine OwnGo.fwd (fun tq' kq' => XS.iconst X0.here hx rfl (hb hby d7_27) kq') ?_
        show OwnGo _ _ _ _ (s₁.setTop (mkF m 28 #[.val (.ref r), .val (.int x)] [(.int (2 : Int32)), (.int (Int32.ofNat n))]))
        by_cases hc28_11 : 2 < (n : Int)
        · refine OwnGo.fwd (fun tq' kq' => XS.icmpNo X0.here hx rfl (hb hby d7_28) rfl (own_blt (by decide) hi_n hc28_11).2.2.2 kq') ?_
          show OwnGo _ _ _ _ (s₁.setTop (mkF m 31 #[.val (.ref r), .val (.int x)] []))
          refine OwnGo.fwd (fun tq' kq' => XS.aloadN X0.here hx rfl (hb hby d7_31) rfl rfl kq') ?_
          show OwnGo _ _ _ _ (s₁.setTop (mkF m 32 #[.val (.ref r), .val (.int x)] [(.ref r)]))
          refine OwnGo.fwd (fun tq' kq' => XS.iconst X0.here hx rfl (hb hby d7_32) kq') ?_
          show OwnGo _ _ _ _ (s₁.setTop (mkF m 33 #[.val (.ref r), .val (.int x)] [(.int (2 : Int32)), (.ref r)]))
          refine OwnGo.fwd (fun tq' kq' => own_iaload X0 hx hZ e0 V_r (i := 2) (by decide) (by omega) (g := (mkF m 33 #[.val (.ref r), .val (.int x)] [(.int (2 : Int32)), (.ref r)])) rfl rfl (hb hby d7_33) tq' kq') ?_
          show OwnGo _ _ _ _ (s₁.setTop (mkF m 34 #[.val (.ref r), .val (.int x)] [(.int (u 2))]))
          refine OwnGo.fwd (fun tq' kq' => XS.iloadN X0.here hx rfl (hb hby d7_34) rfl kq') ?_
          show OwnGo _ _ _ _ (s₁.setTop (mkF m 35 #[.val (.ref r), .val (.int x)] [(.int x), (.int (u 2))]))
          by_cases hc35_12 : (u 2).toInt = x.toInt
          · refine OwnGo.fwd (fun tq' kq' => XS.icmpYes X0.here hx rfl (pc0 := 35) (pc' := 51) rfl (hb hby d7_35) rfl (own_beq rfl rfl hc35_12).1 (by decide) (by decide) kq') ?_
            show OwnGo _ _ _ _ (s₁.setTop (mkF m 51 #[.val (.ref r), .val (.int x)] []))
            refine OwnGo.fwd (fun tq' kq' => XS.iconst X0.here hx rfl (hb hby d7_51) kq') ?_
            show OwnGo _ _ _ _ (s₁.setTop (mkF m 52 #[.val (.ref r), .val (.int x)] [(.int (1 : Int32))]))
            refine OwnGo.fwd (fun tq' kq' => XS.goto X0.here hx rfl (pc0 := 52) (pc' := 56) rfl (hb hby d7_52) (by decide) (by decide) kq') ?_
            show OwnGo _ _ _ _ (s₁.setTop (mkF m 56 #[.val (.ref r), .val (.int x)] [(.int (1 : Int32))]))
            exact own_retZ X0 hlk hx Bd.returns (hb hby d7_56) (by decide) (by decide) e0 ⟨rfl, N, rfl⟩
          · refine OwnGo.fwd (fun tq' kq' => XS.icmpNo X0.here hx rfl (hb hby d7_35) rfl (own_bneq rfl rfl hc35_12).1 kq') ?_
            show OwnGo _ _ _ _ (s₁.setTop (mkF m 38 #[.val (.ref r), .val (.int x)] []))
            refine OwnGo.fwd (fun tq' kq' => XS.aloadN X0.here hx rfl (hb hby d7_38) rfl rfl kq') ?_
            show OwnGo _ _ _ _ (s₁.setTop (mkF m 39 #[.val (.ref r), .val (.int x)] [(.ref r)]))
            refine OwnGo.fwd (fun tq' kq' => own_len X0 hx hZ e0 V_r (g := (mkF m 39 #[.val (.ref r), .val (.int x)] [(.ref r)])) rfl rfl (hb hby d7_39) tq' kq') ?_
            show OwnGo _ _ _ _ (s₁.setTop (mkF m 40 #[.val (.ref r), .val (.int x)] [(.int (Int32.ofNat n))]))
            refine OwnGo.fwd (fun tq' kq' => XS.iconst X0.here hx rfl (hb hby d7_40) kq') ?_
            show OwnGo _ _ _ _ (s₁.setTop (mkF m 41 #[.val (.ref r), .val (.int x)] [(.int (3 : Int32)), (.int (Int32.ofNat n))]))
            by_cases hc41_13 : 3 < (n : Int)
            · refine OwnGo.fwd (fun tq' kq' => XS.icmpNo X0.here hx rfl (hb hby d7_41) rfl (own_blt (by decide) hi_n hc41_13).2.2.2 kq') ?_
              show OwnGo _ _ _ _ (s₁.setTop (mkF m 44 #[.val (.ref r), .val (.int x)] []))
              refine OwnGo.fwd (fun tq' kq' => XS.aloadN X0.here hx rfl (hb hby d7_44) rfl rfl kq') ?_
              show OwnGo _ _ _ _ (s₁.setTop (mkF m 45 #[.val (.ref r), .val (.int x)] [(.ref r)]))
              refine OwnGo.fwd (fun tq' kq' => XS.iconst X0.here hx rfl (hb hby d7_45) kq') ?_
              show OwnGo _ _ _ _ (s₁.setTop (mkF m 46 #[.val (.ref r), .val (.int x)] [(.int (3 : Int32)), (.ref r)]))
              refine OwnGo.fwd (fun tq' kq' => own_iaload X0 hx hZ e0 V_r (i := 3) (by decide) (by omega) (g := (mkF m 46 #[.val (.ref r), .val (.int x)] [(.int (3 : Int32)), (.ref r)])) rfl rfl (hb hby d7_46) tq' kq') ?_
              show OwnGo _ _ _ _ (s₁.setTop (mkF m 47 #[.val (.ref r), .val (.int x)] [(.int (u 3))]))
              refine OwnGo.fwd (fun tq' kq' => XS.iloadN X0.here hx rfl (hb hby d7_47) rfl kq') ?_
              show OwnGo _ _ _ _ (s₁.setTop (mkF m 48 #[.val (.ref r), .val (.int x)] [(.int x), (.int (u 3))]))
              by_cases hc48_14 : (u 3).toInt = x.toInt
              · refine OwnGo.fwd (fun tq' kq' => XS.icmpNo X0.here hx rfl (hb hby d7_48) rfl (own_beq rfl rfl hc48_14).2 kq') ?_
                show OwnGo _ _ _ _ (s₁.setTop (mkF m 51 #[.val (.ref r), .val (.int x)] []))
                refine OwnGo.fwd (fun tq' kq' => XS.iconst X0.here hx rfl (hb hby d7_51) kq') ?_
                show OwnGo _ _ _ _ (s₁.setTop (mkF m 52 #[.val (.ref r), .val (.int x)] [(.int (1 : Int32))]))
                refine OwnGo.fwd (fun tq' kq' => XS.goto X0.here hx rfl (pc0 := 52) (pc' := 56) rfl (hb hby d7_52) (by decide) (by decide) kq') ?_
                show OwnGo _ _ _ _ (s₁.setTop (mkF m 56 #[.val (.ref r), .val (.int x)] [(.int (1 : Int32))]))
                exact own_retZ X0 hlk hx Bd.returns (hb hby d7_56) (by decide) (by decide) e0 ⟨rfl, N, rfl⟩
              · refine OwnGo.fwd (fun tq' kq' => XS.icmpYes X0.here hx rfl (pc0 := 48) (pc' := 55) rfl (hb hby d7_48) rfl (own_bneq rfl rfl hc48_14).2 (by decide) (by decide) kq') ?_
                show OwnGo _ _ _ _ (s₁.setTop (mkF m 55 #[.val (.ref r), .val (.int x)] []))
                exfalso
                obtain ⟨k, hk, e⟩ := hx'
                have e := congrArg Int32.toInt e
                have : k = 0 ∨ k = 1 ∨ k = 2 ∨ k = 3 := by omega
                rcases this with rfl | rfl | rfl | rfl <;> omega
            · refine OwnGo.fwd (fun tq' kq' => XS.icmpYes X0.here hx rfl (pc0 := 41) (pc' := 55) rfl (hb hby d7_41) rfl (own_bnlt (by decide) hi_n hc41_13).2.2.2 (by decide) (by decide) kq') ?_
              show OwnGo _ _ _ _ (s₁.setTop (mkF m 55 #[.val (.ref r), .val (.int x)] []))
              exfalso
              obtain ⟨k, hk, e⟩ := hx'
              have e := congrArg Int32.toInt e
              have : k = 0 ∨ k = 1 ∨ k = 2 ∨ k = 3 := by omega
              rcases this with rfl | rfl | rfl | rfl <;> omega
        · refine OwnGo.fwd (fun tq' kq' => XS.icmpYes X0.here hx rfl (pc0 := 28) (pc' := 38) rfl (hb hby d7_28) rfl (own_bnlt (by decide) hi_n hc28_11).2.2.2 (by decide) (by decide) kq') ?_
          show OwnGo _ _ _ _ (s₁.setTop (mkF m 38 #[.val (.ref r), .val (.int x)] []))
          refine OwnGo.fwd (fun tq' kq' => XS.aloadN X0.here hx rfl (hb hby d7_38) rfl rfl kq') ?_
          show OwnGo _ _ _ _ (s₁.setTop (mkF m 39 #[.val (.ref r), .val (.int x)] [(.ref r)]))
          refine OwnGo.fwd (fun tq' kq' => own_len X0 hx hZ e0 V_r (g := (mkF m 39 #[.val (.ref r), .val (.int x)] [(.ref r)])) rfl rfl (hb hby d7_39) tq' kq') ?_
          show OwnGo _ _ _ _ (s₁.setTop (mkF m 40 #[.val (.ref r), .val (.int x)] [(.int (Int32.ofNat n))]))
          refine OwnGo.fwd (fun tq' kq' => XS.iconst X0.here hx rfl (hb hby d7_40) kq') ?_
          show OwnGo _ _ _ _ (s₁.setTop (mkF m 41 #[.val (.ref r), .val (.int x)] [(.int (3 : Int32)), (.int (Int32.ofNat n))]))
          by_cases hc41_15 : 3 < (n : Int)
          · refine OwnGo.fwd (fun tq' kq' => XS.icmpNo X0.here hx rfl (hb hby d7_41) rfl (own_blt (by decide) hi_n hc41_15).2.2.2 kq') ?_
            show OwnGo _ _ _ _ (s₁.setTop (mkF m 44 #[.val (.ref r), .val (.int x)] []))
            refine OwnGo.fwd (fun tq' kq' => XS.aloadN X0.here hx rfl (hb hby d7_44) rfl rfl kq') ?_
            show OwnGo _ _ _ _ (s₁.setTop (mkF m 45 #[.val (.ref r), .val (.int x)] [(.ref r)]))
            refine OwnGo.fwd (fun tq' kq' => XS.iconst X0.here hx rfl (hb hby d7_45) kq') ?_
            show OwnGo _ _ _ _ (s₁.setTop (mkF m 46 #[.val (.ref r), .val (.int x)] [(.int (3 : Int32)), (.ref r)]))
            refine OwnGo.fwd (fun tq' kq' => own_iaload X0 hx hZ e0 V_r (i := 3) (by decide) (by omega) (g := (mkF m 46 #[.val (.ref r), .val (.int x)] [(.int (3 : Int32)), (.ref r)])) rfl rfl (hb hby d7_46) tq' kq') ?_
            show OwnGo _ _ _ _ (s₁.setTop (mkF m 47 #[.val (.ref r), .val (.int x)] [(.int (u 3))]))
            refine OwnGo.fwd (fun tq' kq' => XS.iloadN X0.here hx rfl (hb hby d7_47) rfl kq') ?_
            show OwnGo _ _ _ _ (s₁.setTop (mkF m 48 #[.val (.ref r), .val (.int x)] [(.int x), (.int (u 3))]))
            by_cases hc48_16 : (u 3).toInt = x.toInt
            · refine OwnGo.fwd (fun tq' kq' => XS.icmpNo X0.here hx rfl (hb hby d7_48) rfl (own_beq rfl rfl hc48_16).2 kq') ?_
              show OwnGo _ _ _ _ (s₁.setTop (mkF m 51 #[.val (.ref r), .val (.int x)] []))
              refine OwnGo.fwd (fun tq' kq' => XS.iconst X0.here hx rfl (hb hby d7_51) kq') ?_
              show OwnGo _ _ _ _ (s₁.setTop (mkF m 52 #[.val (.ref r), .val (.int x)] [(.int (1 : Int32))]))
              refine OwnGo.fwd (fun tq' kq' => XS.goto X0.here hx rfl (pc0 := 52) (pc' := 56) rfl (hb hby d7_52) (by decide) (by decide) kq') ?_
              show OwnGo _ _ _ _ (s₁.setTop (mkF m 56 #[.val (.ref r), .val (.int x)] [(.int (1 : Int32))]))
              exact own_retZ X0 hlk hx Bd.returns (hb hby d7_56) (by decide) (by decide) e0 ⟨rfl, N, rfl⟩
            · refine OwnGo.fwd (fun tq' kq' => XS.icmpYes X0.here hx rfl (pc0 := 48) (pc' := 55) rfl (hb hby d7_48) rfl (own_bneq rfl rfl hc48_16).2 (by decide) (by decide) kq') ?_
              show OwnGo _ _ _ _ (s₁.setTop (mkF m 55 #[.val (.ref r), .val (.int x)] []))
              exfalso
              obtain ⟨k, hk, e⟩ := hx'
              have e := congrArg Int32.toInt e
              have : k = 0 ∨ k = 1 ∨ k = 2 ∨ k = 3 := by omega
              rcases this with rfl | rfl | rfl | rfl <;> omega
          · refine OwnGo.fwd (fun tq' kq' => XS.icmpYes X0.here hx rfl (pc0 := 41) (pc' := 55) rfl (hb hby d7_41) rfl (own_bnlt (by decide) hi_n hc41_15).2.2.2 (by decide) (by decide) kq') ?_
            show OwnGo _ _ _ _ (s₁.setTop (mkF m 55 #[.val (.ref r), .val (.int x)] []))
            exfalso
            obtain ⟨k, hk, e⟩ := hx'
            have e := congrArg Int32.toInt e
            have : k = 0 ∨ k = 1 ∨ k = 2 ∨ k = 3 := by omega
            rcases this with rfl | rfl | rfl | rfl <;> omega
  · refine OwnGo.fwd (fun tq' kq' => XS.ifYes X0.here hx rfl (pc0 := 2) (pc' := 12) rfl (hb hby d7_2) rfl ((if0 _ _).trans (own_bnlt (by decide) hi_n hc2_1).2.2.2) (by decide) (by decide) kq') ?_
    show OwnGo _ _ _ _ (s₁.setTop (mkF m 12 #[.val (.ref r), .val (.int x)] []))
    refine OwnGo.fwd (fun tq' kq' => XS.aloadN X0.here hx rfl (hb hby d7_12) rfl rfl kq') ?_
    show OwnGo _ _ _ _ (s₁.setTop (mkF m 13 #[.val (.ref r), .val (.int x)] [(.ref r)]))
    refine OwnGo.fwd (fun tq' kq' => own_len X0 hx hZ e0 V_r (g := (mkF m 13 #[.val (.ref r), .val (.int x)] [(.ref r)])) rfl rfl (hb hby d7_13) tq' kq') ?_
    show OwnGo _ _ _ _ (s₁.setTop (mkF m 14 #[.val (.ref r), .val (.int x)] [(.int (Int32.ofNat n))]))
    refine OwnGo.fwd (fun tq' kq' => XS.iconst X0.here hx rfl (hb hby d7_14) kq') ?_
    show OwnGo _ _ _ _ (s₁.setTop (mkF m 15 #[.val (.ref r), .val (.int x)] [(.int (1 : Int32)), (.int (Int32.ofNat n))]))
    by_cases hc15_17 : 1 < (n : Int)
    · refine OwnGo.fwd (fun tq' kq' => XS.icmpNo X0.here hx rfl (hb hby d7_15) rfl (own_blt (by decide) hi_n hc15_17).2.2.2 kq') ?_
      show OwnGo _ _ _ _ (s₁.setTop (mkF m 18 #[.val (.ref r), .val (.int x)] []))
      refine OwnGo.fwd (fun tq' kq' => XS.aloadN X0.here hx rfl (hb hby d7_18) rfl rfl kq') ?_
      show OwnGo _ _ _ _ (s₁.setTop (mkF m 19 #[.val (.ref r), .val (.int x)] [(.ref r)]))
      refine OwnGo.fwd (fun tq' kq' => XS.iconst X0.here hx rfl (hb hby d7_19) kq') ?_
      show OwnGo _ _ _ _ (s₁.setTop (mkF m 20 #[.val (.ref r), .val (.int x)] [(.int (1 : Int32)), (.ref r)]))
      refine OwnGo.fwd (fun tq' kq' => own_iaload X0 hx hZ e0 V_r (i := 1) (by decide) (by omega) (g := (mkF m 20 #[.val (.ref r), .val (.int x)] [(.int (1 : Int32)), (.ref r)])) rfl rfl (hb hby d7_20) tq' kq') ?_
      show OwnGo _ _ _ _ (s₁.setTop (mkF m 21 #[.val (.ref r), .val (.int x)] [(.int (u 1))]))
      refine OwnGo.fwd (fun tq' kq' => XS.iloadN X0.here hx rfl (hb hby d7_21) rfl kq') ?_
      show OwnGo _ _ _ _ (s₁.setTop (mkF m 22 #[.val (.ref r), .val (.int x)] [(.int x), (.int (u 1))]))
      by_cases hc22_18 : (u 1).toInt = x.toInt
      · refine OwnGo.fwd (fun tq' kq' => XS.icmpYes X0.here hx rfl (pc0 := 22) (pc' := 51) rfl (hb hby d7_22) rfl (own_beq rfl rfl hc22_18).1 (by decide) (by decide) kq') ?_
        show OwnGo _ _ _ _ (s₁.setTop (mkF m 51 #[.val (.ref r), .val (.int x)] []))
        refine OwnGo.fwd (fun tq' kq' => XS.iconst X0.here hx rfl (hb hby d7_51) kq') ?_
        show OwnGo _ _ _ _ (s₁.setTop (mkF m 52 #[.val (.ref r), .val (.int x)] [(.int (1 : Int32))]))
        refine OwnGo.fwd (fun tq' kq' => XS.goto X0.here hx rfl (pc0 := 52) (pc' := 56) rfl (hb hby d7_52) (by decide) (by decide) kq') ?_
        show OwnGo _ _ _ _ (s₁.setTop (mkF m 56 #[.val (.ref r), .val (.int x)] [(.int (1 : Int32))]))
        exact own_retZ X0 hlk hx Bd.returns (hb hby d7_56) (by decide) (by decide) e0 ⟨rfl, N, rfl⟩
      · refine OwnGo.fwd (fun tq' kq' => XS.icmpNo X0.here hx rfl (hb hby d7_22) rfl (own_bneq rfl rfl hc22_18).1 kq') ?_
        show OwnGo _ _ _ _ (s₁.setTop (mkF m 25 #[.val (.ref r), .val (.int x)] []))
        refine OwnGo.fwd (fun tq' kq' => XS.aloadN X0.here hx rfl (hb hby d7_25) rfl rfl kq') ?_
        show OwnGo _ _ _ _ (s₁.setTop (mkF m 26 #[.val (.ref r), .val (.int x)] [(.ref r)]))
        refine OwnGo.fwd (fun tq' kq' => own_len X0 hx hZ e0 V_r (g := (mkF m 26 #[.val (.ref r), .val (.int x)] [(.ref r)])) rfl rfl (hb hby d7_26) tq' kq') ?_
        show OwnGo _ _ _ _ (s₁.setTop (mkF m 27 #[.val (.ref r), .val (.int x)] [(.int (Int32.ofNat n))]))
        refine OwnGo.fwd (fun tq' kq' => XS.iconst X0.here hx rfl (hb hby d7_27) kq') ?_
        show OwnGo _ _ _ _ (s₁.setTop (mkF m 28 #[.val (.ref r), .val (.int x)] [(.int (2 : Int32)), (.int (Int32.ofNat n))]))
        by_cases hc28_19 : 2 < (n : Int)
        · refine OwnGo.fwd (fun tq' kq' => XS.icmpNo X0.here hx rfl (hb hby d7_28) rfl (own_blt (by decide) hi_n hc28_19).2.2.2 kq') ?_
          show OwnGo _ _ _ _ (s₁.setTop (mkF m 31 #[.val (.ref r), .val (.int x)] []))
          refine OwnGo.fwd (fun tq' kq' => XS.aloadN X0.here hx rfl (hb hby d7_31) rfl rfl kq') ?_
          show OwnGo _ _ _ _ (s₁.setTop (mkF m 32 #[.val (.ref r), .val (.int x)] [(.ref r)]))
          refine OwnGo.fwd (fun tq' kq' => XS.iconst X0.here hx rfl (hb hby d7_32) kq') ?_
          show OwnGo _ _ _ _ (s₁.setTop (mkF m 33 #[.val (.ref r), .val (.int x)] [(.int (2 : Int32)), (.ref r)]))
          refine OwnGo.fwd (fun tq' kq' => own_iaload X0 hx hZ e0 V_r (i := 2) (by decide) (by omega) (g := (mkF m 33 #[.val (.ref r), .val (.int x)] [(.int (2 : Int32)), (.ref r)])) rfl rfl (hb hby d7_33) tq' kq') ?_
          show OwnGo _ _ _ _ (s₁.setTop (mkF m 34 #[.val (.ref r), .val (.int x)] [(.int (u 2))]))
          refine OwnGo.fwd (fun tq' kq' => XS.iloadN X0.here hx rfl (hb hby d7_34) rfl kq') ?_
          show OwnGo _ _ _ _ (s₁.setTop (mkF m 35 #[.val (.ref r), .val (.int x)] [(.int x), (.int (u 2))]))
          by_cases hc35_20 : (u 2).toInt = x.toInt
          · refine OwnGo.fwd (fun tq' kq' => XS.icmpYes X0.here hx rfl (pc0 := 35) (pc' := 51) rfl (hb hby d7_35) rfl (own_beq rfl rfl hc35_20).1 (by decide) (by decide) kq') ?_
            show OwnGo _ _ _ _ (s₁.setTop (mkF m 51 #[.val (.ref r), .val (.int x)] []))
            refine OwnGo.fwd (fun tq' kq' => XS.iconst X0.here hx rfl (hb hby d7_51) kq') ?_
            show OwnGo _ _ _ _ (s₁.setTop (mkF m 52 #[.val (.ref r), .val (.int x)] [(.int (1 : Int32))]))
            refine OwnGo.fwd (fun tq' kq' => XS.goto X0.here hx rfl (pc0 := 52) (pc' := 56) rfl (hb hby d7_52) (by decide) (by decide) kq') ?_
            show OwnGo _ _ _ _ (s₁.setTop (mkF m 56 #[.val (.ref r), .val (.int x)] [(.int (1 : Int32))]))
            exact own_retZ X0 hlk hx Bd.returns (hb hby d7_56) (by decide) (by decide) e0 ⟨rfl, N, rfl⟩
          · refine OwnGo.fwd (fun tq' kq' => XS.icmpNo X0.here hx rfl (hb hby d7_35) rfl (own_bneq rfl rfl hc35_20).1 kq') ?_
            show OwnGo _ _ _ _ (s₁.setTop (mkF m 38 #[.val (.ref r), .val (.int x)] []))
            refine OwnGo.fwd (fun tq' kq' => XS.aloadN X0.here hx rfl (hb hby d7_38) rfl rfl kq') ?_
            show OwnGo _ _ _ _ (s₁.setTop (mkF m 39 #[.val (.ref r), .val (.int x)] [(.ref r)]))
            refine OwnGo.fwd (fun tq' kq' => own_len X0 hx hZ e0 V_r (g := (mkF m 39 #[.val (.ref r), .val (.int x)] [(.ref r)])) rfl rfl (hb hby d7_39) tq' kq') ?_
            show OwnGo _ _ _ _ (s₁.setTop (mkF m 40 #[.val (.ref r), .val (.int x)] [(.int (Int32.ofNat n))]))
            refine OwnGo.fwd (fun tq' kq' => XS.iconst X0.here hx rfl (hb hby d7_40) kq') ?_
            show OwnGo _ _ _ _ (s₁.setTop (mkF m 41 #[.val (.ref r), .val (.int x)] [(.int (3 : Int32)), (.int (Int32.ofNat n))]))
            by_cases hc41_21 : 3 < (n : Int)
            · refine OwnGo.fwd (fun tq' kq' => XS.icmpNo X0.here hx rfl (hb hby d7_41) rfl (own_blt (by decide) hi_n hc41_21).2.2.2 kq') ?_
              show OwnGo _ _ _ _ (s₁.setTop (mkF m 44 #[.val (.ref r), .val (.int x)] []))
              refine OwnGo.fwd (fun tq' kq' => XS.aloadN X0.here hx rfl (hb hby d7_44) rfl rfl kq') ?_
              show OwnGo _ _ _ _ (s₁.setTop (mkF m 45 #[.val (.ref r), .val (.int x)] [(.ref r)]))
              refine OwnGo.fwd (fun tq' kq' => XS.iconst X0.here hx rfl (hb hby d7_45) kq') ?_
              show OwnGo _ _ _ _ (s₁.setTop (mkF m 46 #[.val (.ref r), .val (.int x)] [(.int (3 : Int32)), (.ref r)]))
              refine OwnGo.fwd (fun tq' kq' => own_iaload X0 hx hZ e0 V_r (i := 3) (by decide) (by omega) (g := (mkF m 46 #[.val (.ref r), .val (.int x)] [(.int (3 : Int32)), (.ref r)])) rfl rfl (hb hby d7_46) tq' kq') ?_
              show OwnGo _ _ _ _ (s₁.setTop (mkF m 47 #[.val (.ref r), .val (.int x)] [(.int (u 3))]))
              refine OwnGo.fwd (fun tq' kq' => XS.iloadN X0.here hx rfl (hb hby d7_47) rfl kq') ?_
              show OwnGo _ _ _ _ (s₁.setTop (mkF m 48 #[.val (.ref r), .val (.int x)] [(.int x), (.int (u 3))]))
              by_cases hc48_22 : (u 3).toInt = x.toInt
              · refine OwnGo.fwd (fun tq' kq' => XS.icmpNo X0.here hx rfl (hb hby d7_48) rfl (own_beq rfl rfl hc48_22).2 kq') ?_
                show OwnGo _ _ _ _ (s₁.setTop (mkF m 51 #[.val (.ref r), .val (.int x)] []))
                refine OwnGo.fwd (fun tq' kq' => XS.iconst X0.here hx rfl (hb hby d7_51) kq') ?_
                show OwnGo _ _ _ _ (s₁.setTop (mkF m 52 #[.val (.ref r), .val (.int x)] [(.int (1 : Int32))]))
                refine OwnGo.fwd (fun tq' kq' => XS.goto X0.here hx rfl (pc0 := 52) (pc' := 56) rfl (hb hby d7_52) (by decide) (by decide) kq') ?_
                show OwnGo _ _ _ _ (s₁.setTop (mkF m 56 #[.val (.ref r), .val (.int x)] [(.int (1 : Int32))]))
                exact own_retZ X0 hlk hx Bd.returns (hb hby d7_56) (by decide) (by decide) e0 ⟨rfl, N, rfl⟩
              · refine OwnGo.fwd (fun tq' kq' => XS.icmpYes X0.here hx rfl (pc0 := 48) (pc' := 55) rfl (hb hby d7_48) rfl (own_bneq rfl rfl hc48_22).2 (by decide) (by decide) kq') ?_
                show OwnGo _ _ _ _ (s₁.setTop (mkF m 55 #[.val (.ref r), .val (.int x)] []))
                exfalso
                obtain ⟨k, hk, e⟩ := hx'
                have e := congrArg Int32.toInt e
                have : k = 0 ∨ k = 1 ∨ k = 2 ∨ k = 3 := by omega
                rcases this with rfl | rfl | rfl | rfl <;> omega
            · refine OwnGo.fwd (fun tq' kq' => XS.icmpYes X0.here hx rfl (pc0 := 41) (pc' := 55) rfl (hb hby d7_41) rfl (own_bnlt (by decide) hi_n hc41_21).2.2.2 (by decide) (by decide) kq') ?_
              show OwnGo _ _ _ _ (s₁.setTop (mkF m 55 #[.val (.ref r), .val (.int x)] []))
              exfalso
              obtain ⟨k, hk, e⟩ := hx'
              have e := congrArg Int32.toInt e
              have : k = 0 ∨ k = 1 ∨ k = 2 ∨ k = 3 := by omega
              rcases this with rfl | rfl | rfl | rfl <;> omega
        · refine OwnGo.fwd (fun tq' kq' => XS.icmpYes X0.here hx rfl (pc0 := 28) (pc' := 38) rfl (hb hby d7_28) rfl (own_bnlt (by decide) hi_n hc28_19).2.2.2 (by decide) (by decide) kq') ?_
          show OwnGo _ _ _ _ (s₁.setTop (mkF m 38 #[.val (.ref r), .val (.int x)] []))
          refine OwnGo.fwd (fun tq' kq' => XS.aloadN X0.here hx rfl (hb hby d7_38) rfl rfl kq') ?_
          show OwnGo _ _ _ _ (s₁.setTop (mkF m 39 #[.val (.ref r), .val (.int x)] [(.ref r)]))
          refine OwnGo.fwd (fun tq' kq' => own_len X0 hx hZ e0 V_r (g := (mkF m 39 #[.val (.ref r), .val (.int x)] [(.ref r)])) rfl rfl (hb hby d7_39) tq' kq') ?_
          show OwnGo _ _ _ _ (s₁.setTop (mkF m 40 #[.val (.ref r), .val (.int x)] [(.int (Int32.ofNat n))]))
          refine OwnGo.fwd (fun tq' kq' => XS.iconst X0.here hx rfl (hb hby d7_40) kq') ?_
          show OwnGo _ _ _ _ (s₁.setTop (mkF m 41 #[.val (.ref r), .val (.int x)] [(.int (3 : Int32)), (.int (Int32.ofNat n))]))
          by_cases hc41_23 : 3 < (n : Int)
          · refine OwnGo.fwd (fun tq' kq' => XS.icmpNo X0.here hx rfl (hb hby d7_41) rfl (own_blt (by decide) hi_n hc41_23).2.2.2 kq') ?_
            show OwnGo _ _ _ _ (s₁.setTop (mkF m 44 #[.val (.ref r), .val (.int x)] []))
            refine OwnGo.fwd (fun tq' kq' => XS.aloadN X0.here hx rfl (hb hby d7_44) rfl rfl kq') ?_
            show OwnGo _ _ _ _ (s₁.setTop (mkF m 45 #[.val (.ref r), .val (.int x)] [(.ref r)]))
            refine OwnGo.fwd (fun tq' kq' => XS.iconst X0.here hx rfl (hb hby d7_45) kq') ?_
            show OwnGo _ _ _ _ (s₁.setTop (mkF m 46 #[.val (.ref r), .val (.int x)] [(.int (3 : Int32)), (.ref r)]))
            refine OwnGo.fwd (fun tq' kq' => own_iaload X0 hx hZ e0 V_r (i := 3) (by decide) (by omega) (g := (mkF m 46 #[.val (.ref r), .val (.int x)] [(.int (3 : Int32)), (.ref r)])) rfl rfl (hb hby d7_46) tq' kq') ?_
            show OwnGo _ _ _ _ (s₁.setTop (mkF m 47 #[.val (.ref r), .val (.int x)] [(.int (u 3))]))
            refine OwnGo.fwd (fun tq' kq' => XS.iloadN X0.here hx rfl (hb hby d7_47) rfl kq') ?_
            show OwnGo _ _ _ _ (s₁.setTop (mkF m 48 #[.val (.ref r), .val (.int x)] [(.int x), (.int (u 3))]))
            by_cases hc48_24 : (u 3).toInt = x.toInt
            · refine OwnGo.fwd (fun tq' kq' => XS.icmpNo X0.here hx rfl (hb hby d7_48) rfl (own_beq rfl rfl hc48_24).2 kq') ?_
              show OwnGo _ _ _ _ (s₁.setTop (mkF m 51 #[.val (.ref r), .val (.int x)] []))
              refine OwnGo.fwd (fun tq' kq' => XS.iconst X0.here hx rfl (hb hby d7_51) kq') ?_
              show OwnGo _ _ _ _ (s₁.setTop (mkF m 52 #[.val (.ref r), .val (.int x)] [(.int (1 : Int32))]))
              refine OwnGo.fwd (fun tq' kq' => XS.goto X0.here hx rfl (pc0 := 52) (pc' := 56) rfl (hb hby d7_52) (by decide) (by decide) kq') ?_
              show OwnGo _ _ _ _ (s₁.setTop (mkF m 56 #[.val (.ref r), .val (.int x)] [(.int (1 : Int32))]))
              exact own_retZ X0 hlk hx Bd.returns (hb hby d7_56) (by decide) (by decide) e0 ⟨rfl, N, rfl⟩
            · refine OwnGo.fwd (fun tq' kq' => XS.icmpYes X0.here hx rfl (pc0 := 48) (pc' := 55) rfl (hb hby d7_48) rfl (own_bneq rfl rfl hc48_24).2 (by decide) (by decide) kq') ?_
              show OwnGo _ _ _ _ (s₁.setTop (mkF m 55 #[.val (.ref r), .val (.int x)] []))
              exfalso
              obtain ⟨k, hk, e⟩ := hx'
              have e := congrArg Int32.toInt e
              have : k = 0 ∨ k = 1 ∨ k = 2 ∨ k = 3 := by omega
              rcases this with rfl | rfl | rfl | rfl <;> omega
          · refine OwnGo.fwd (fun tq' kq' => XS.icmpYes X0.here hx rfl (pc0 := 41) (pc' := 55) rfl (hb hby d7_41) rfl (own_bnlt (by decide) hi_n hc41_23).2.2.2 (by decide) (by decide) kq') ?_
            show OwnGo _ _ _ _ (s₁.setTop (mkF m 55 #[.val (.ref r), .val (.int x)] []))
            exfalso
            obtain ⟨k, hk, e⟩ := hx'
            have e := congrArg Int32.toInt e
            have : k = 0 ∨ k = 1 ∨ k = 2 ∨ k = 3 := by omega
            rcases this with rfl | rfl | rfl | rfl <;> omega
    · refine OwnGo.fwd (fun tq' kq' => XS.icmpYes X0.here hx rfl (pc0 := 15) (pc' := 25) rfl (hb hby d7_15) rfl (own_bnlt (by decide) hi_n hc15_17).2.2.2 (by decide) (by decide) kq') ?_
      show OwnGo _ _ _ _ (s₁.setTop (mkF m 25 #[.val (.ref r), .val (.int x)] []))
      refine OwnGo.fwd (fun tq' kq' => XS.aloadN X0.here hx rfl (hb hby d7_25) rfl rfl kq') ?_
      show OwnGo _ _ _ _ (s₁.setTop (mkF m 26 #[.val (.ref r), .val (.int x)] [(.ref r)]))
      refine OwnGo.fwd (fun tq' kq' => own_len X0 hx hZ e0 V_r (g := (mkF m 26 #[.val (.ref r), .val (.int x)] [(.ref r)])) rfl rfl (hb hby d7_26) tq' kq') ?_
      show OwnGo _ _ _ _ (s₁.setTop (mkF m 27 #[.val (.ref r), .val (.int x)] [(.int (Int32.ofNat n))]))
      refine OwnGo.fwd (fun tq' kq' => XS.iconst X0.here hx rfl (hb hby d7_27) kq') ?_
      show OwnGo _ _ _ _ (s₁.setTop (mkF m 28 #[.val (.ref r), .val (.int x)] [(.int (2 : Int32)), (.int (Int32.ofNat n))]))
      by_cases hc28_25 : 2 < (n : Int)
      · refine OwnGo.fwd (fun tq' kq' => XS.icmpNo X0.here hx rfl (hb hby d7_28) rfl (own_blt (by decide) hi_n hc28_25).2.2.2 kq') ?_
        show OwnGo _ _ _ _ (s₁.setTop (mkF m 31 #[.val (.ref r), .val (.int x)] []))
        refine OwnGo.fwd (fun tq' kq' => XS.aloadN X0.here hx rfl (hb hby d7_31) rfl rfl kq') ?_
        show OwnGo _ _ _ _ (s₁.setTop (mkF m 32 #[.val (.ref r), .val (.int x)] [(.ref r)]))
        refine OwnGo.fwd (fun tq' kq' => XS.iconst X0.here hx rfl (hb hby d7_32) kq') ?_
        show OwnGo _ _ _ _ (s₁.setTop (mkF m 33 #[.val (.ref r), .val (.int x)] [(.int (2 : Int32)), (.ref r)]))
        refine OwnGo.fwd (fun tq' kq' => own_iaload X0 hx hZ e0 V_r (i := 2) (by decide) (by omega) (g := (mkF m 33 #[.val (.ref r), .val (.int x)] [(.int (2 : Int32)), (.ref r)])) rfl rfl (hb hby d7_33) tq' kq') ?_
        show OwnGo _ _ _ _ (s₁.setTop (mkF m 34 #[.val (.ref r), .val (.int x)] [(.int (u 2))]))
        refine OwnGo.fwd (fun tq' kq' => XS.iloadN X0.here hx rfl (hb hby d7_34) rfl kq') ?_
        show OwnGo _ _ _ _ (s₁.setTop (mkF m 35 #[.val (.ref r), .val (.int x)] [(.int x), (.int (u 2))]))
        by_cases hc35_26 : (u 2).toInt = x.toInt
        · refine OwnGo.fwd (fun tq' kq' => XS.icmpYes X0.here hx rfl (pc0 := 35) (pc' := 51) rfl (hb hby d7_35) rfl (own_beq rfl rfl hc35_26).1 (by decide) (by decide) kq') ?_
          show OwnGo _ _ _ _ (s₁.setTop (mkF m 51 #[.val (.ref r), .val (.int x)] []))
          refine OwnGo.fwd (fun tq' kq' => XS.iconst X0.here hx rfl (hb hby d7_51) kq') ?_
          show OwnGo _ _ _ _ (s₁.setTop (mkF m 52 #[.val (.ref r), .val (.int x)] [(.int (1 : Int32))]))
          refine OwnGo.fwd (fun tq' kq' => XS.goto X0.here hx rfl (pc0 := 52) (pc' := 56) rfl (hb hby d7_52) (by decide) (by decide) kq') ?_
          show OwnGo _ _ _ _ (s₁.setTop (mkF m 56 #[.val (.ref r), .val (.int x)] [(.int (1 : Int32))]))
          exact own_retZ X0 hlk hx Bd.returns (hb hby d7_56) (by decide) (by decide) e0 ⟨rfl, N, rfl⟩
        · refine OwnGo.fwd (fun tq' kq' => XS.icmpNo X0.here hx rfl (hb hby d7_35) rfl (own_bneq rfl rfl hc35_26).1 kq') ?_
          show OwnGo _ _ _ _ (s₁.setTop (mkF m 38 #[.val (.ref r), .val (.int x)] []))
          refine OwnGo.fwd (fun tq' kq' => XS.aloadN X0.here hx rfl (hb hby d7_38) rfl rfl kq') ?_
          show OwnGo _ _ _ _ (s₁.setTop (mkF m 39 #[.val (.ref r), .val (.int x)] [(.ref r)]))
          refine OwnGo.fwd (fun tq' kq' => own_len X0 hx hZ e0 V_r (g := (mkF m 39 #[.val (.ref r), .val (.int x)] [(.ref r)])) rfl rfl (hb hby d7_39) tq' kq') ?_
          show OwnGo _ _ _ _ (s₁.setTop (mkF m 40 #[.val (.ref r), .val (.int x)] [(.int (Int32.ofNat n))]))
          refine OwnGo.fwd (fun tq' kq' => XS.iconst X0.here hx rfl (hb hby d7_40) kq') ?_
          show OwnGo _ _ _ _ (s₁.setTop (mkF m 41 #[.val (.ref r), .val (.int x)] [(.int (3 : Int32)), (.int (Int32.ofNat n))]))
          by_cases hc41_27 : 3 < (n : Int)
          · refine OwnGo.fwd (fun tq' kq' => XS.icmpNo X0.here hx rfl (hb hby d7_41) rfl (own_blt (by decide) hi_n hc41_27).2.2.2 kq') ?_
            show OwnGo _ _ _ _ (s₁.setTop (mkF m 44 #[.val (.ref r), .val (.int x)] []))
            refine OwnGo.fwd (fun tq' kq' => XS.aloadN X0.here hx rfl (hb hby d7_44) rfl rfl kq') ?_
            show OwnGo _ _ _ _ (s₁.setTop (mkF m 45 #[.val (.ref r), .val (.int x)] [(.ref r)]))
            refine OwnGo.fwd (fun tq' kq' => XS.iconst X0.here hx rfl (hb hby d7_45) kq') ?_
            show OwnGo _ _ _ _ (s₁.setTop (mkF m 46 #[.val (.ref r), .val (.int x)] [(.int (3 : Int32)), (.ref r)]))
            refine OwnGo.fwd (fun tq' kq' => own_iaload X0 hx hZ e0 V_r (i := 3) (by decide) (by omega) (g := (mkF m 46 #[.val (.ref r), .val (.int x)] [(.int (3 : Int32)), (.ref r)])) rfl rfl (hb hby d7_46) tq' kq') ?_
            show OwnGo _ _ _ _ (s₁.setTop (mkF m 47 #[.val (.ref r), .val (.int x)] [(.int (u 3))]))
            refine OwnGo.fwd (fun tq' kq' => XS.iloadN X0.here hx rfl (hb hby d7_47) rfl kq') ?_
            show OwnGo _ _ _ _ (s₁.setTop (mkF m 48 #[.val (.ref r), .val (.int x)] [(.int x), (.int (u 3))]))
            by_cases hc48_28 : (u 3).toInt = x.toInt
            · refine OwnGo.fwd (fun tq' kq' => XS.icmpNo X0.here hx rfl (hb hby d7_48) rfl (own_beq rfl rfl hc48_28).2 kq') ?_
              show OwnGo _ _ _ _ (s₁.setTop (mkF m 51 #[.val (.ref r), .val (.int x)] []))
              refine OwnGo.fwd (fun tq' kq' => XS.iconst X0.here hx rfl (hb hby d7_51) kq') ?_
              show OwnGo _ _ _ _ (s₁.setTop (mkF m 52 #[.val (.ref r), .val (.int x)] [(.int (1 : Int32))]))
              refine OwnGo.fwd (fun tq' kq' => XS.goto X0.here hx rfl (pc0 := 52) (pc' := 56) rfl (hb hby d7_52) (by decide) (by decide) kq') ?_
              show OwnGo _ _ _ _ (s₁.setTop (mkF m 56 #[.val (.ref r), .val (.int x)] [(.int (1 : Int32))]))
              exact own_retZ X0 hlk hx Bd.returns (hb hby d7_56) (by decide) (by decide) e0 ⟨rfl, N, rfl⟩
            · refine OwnGo.fwd (fun tq' kq' => XS.icmpYes X0.here hx rfl (pc0 := 48) (pc' := 55) rfl (hb hby d7_48) rfl (own_bneq rfl rfl hc48_28).2 (by decide) (by decide) kq') ?_
              show OwnGo _ _ _ _ (s₁.setTop (mkF m 55 #[.val (.ref r), .val (.int x)] []))
              exfalso
              obtain ⟨k, hk, e⟩ := hx'
              have e := congrArg Int32.toInt e
              have : k = 0 ∨ k = 1 ∨ k = 2 ∨ k = 3 := by omega
              rcases this with rfl | rfl | rfl | rfl <;> omega
          · refine OwnGo.fwd (fun tq' kq' => XS.icmpYes X0.here hx rfl (pc0 := 41) (pc' := 55) rfl (hb hby d7_41) rfl (own_bnlt (by decide) hi_n hc41_27).2.2.2 (by decide) (by decide) kq') ?_
            show OwnGo _ _ _ _ (s₁.setTop (mkF m 55 #[.val (.ref r), .val (.int x)] []))
            exfalso
            obtain ⟨k, hk, e⟩ := hx'
            have e := congrArg Int32.toInt e
            have : k = 0 ∨ k = 1 ∨ k = 2 ∨ k = 3 := by omega
            rcases this with rfl | rfl | rfl | rfl <;> omega
      · refine OwnGo.fwd (fun tq' kq' => XS.icmpYes X0.here hx rfl (pc0 := 28) (pc' := 38) rfl (hb hby d7_28) rfl (own_bnlt (by decide) hi_n hc28_25).2.2.2 (by decide) (by decide) kq') ?_
        show OwnGo _ _ _ _ (s₁.setTop (mkF m 38 #[.val (.ref r), .val (.int x)] []))
        refine OwnGo.fwd (fun tq' kq' => XS.aloadN X0.here hx rfl (hb hby d7_38) rfl rfl kq') ?_
        show OwnGo _ _ _ _ (s₁.setTop (mkF m 39 #[.val (.ref r), .val (.int x)] [(.ref r)]))
        refine OwnGo.fwd (fun tq' kq' => own_len X0 hx hZ e0 V_r (g := (mkF m 39 #[.val (.ref r), .val (.int x)] [(.ref r)])) rfl rfl (hb hby d7_39) tq' kq') ?_
        show OwnGo _ _ _ _ (s₁.setTop (mkF m 40 #[.val (.ref r), .val (.int x)] [(.int (Int32.ofNat n))]))
        refine OwnGo.fwd (fun tq' kq' => XS.iconst X0.here hx rfl (hb hby d7_40) kq') ?_
        show OwnGo _ _ _ _ (s₁.setTop (mkF m 41 #[.val (.ref r), .val (.int x)] [(.int (3 : Int32)), (.int (Int32.ofNat n))]))
        by_cases hc41_29 : 3 < (n : Int)
        · refine OwnGo.fwd (fun tq' kq' => XS.icmpNo X0.here hx rfl (hb hby d7_41) rfl (own_blt (by decide) hi_n hc41_29).2.2.2 kq') ?_
          show OwnGo _ _ _ _ (s₁.setTop (mkF m 44 #[.val (.ref r), .val (.int x)] []))
          refine OwnGo.fwd (fun tq' kq' => XS.aloadN X0.here hx rfl (hb hby d7_44) rfl rfl kq') ?_
          show OwnGo _ _ _ _ (s₁.setTop (mkF m 45 #[.val (.ref r), .val (.int x)] [(.ref r)]))
          refine OwnGo.fwd (fun tq' kq' => XS.iconst X0.here hx rfl (hb hby d7_45) kq') ?_
          show OwnGo _ _ _ _ (s₁.setTop (mkF m 46 #[.val (.ref r), .val (.int x)] [(.int (3 : Int32)), (.ref r)]))
          refine OwnGo.fwd (fun tq' kq' => own_iaload X0 hx hZ e0 V_r (i := 3) (by decide) (by omega) (g := (mkF m 46 #[.val (.ref r), .val (.int x)] [(.int (3 : Int32)), (.ref r)])) rfl rfl (hb hby d7_46) tq' kq') ?_
          show OwnGo _ _ _ _ (s₁.setTop (mkF m 47 #[.val (.ref r), .val (.int x)] [(.int (u 3))]))
          refine OwnGo.fwd (fun tq' kq' => XS.iloadN X0.here hx rfl (hb hby d7_47) rfl kq') ?_
          show OwnGo _ _ _ _ (s₁.setTop (mkF m 48 #[.val (.ref r), .val (.int x)] [(.int x), (.int (u 3))]))
          by_cases hc48_30 : (u 3).toInt = x.toInt
          · refine OwnGo.fwd (fun tq' kq' => XS.icmpNo X0.here hx rfl (hb hby d7_48) rfl (own_beq rfl rfl hc48_30).2 kq') ?_
            show OwnGo _ _ _ _ (s₁.setTop (mkF m 51 #[.val (.ref r), .val (.int x)] []))
            refine OwnGo.fwd (fun tq' kq' => XS.iconst X0.here hx rfl (hb hby d7_51) kq') ?_
            show OwnGo _ _ _ _ (s₁.setTop (mkF m 52 #[.val (.ref r), .val (.int x)] [(.int (1 : Int32))]))
            refine OwnGo.fwd (fun tq' kq' => XS.goto X0.here hx rfl (pc0 := 52) (pc' := 56) rfl (hb hby d7_52) (by decide) (by decide) kq') ?_
            show OwnGo _ _ _ _ (s₁.setTop (mkF m 56 #[.val (.ref r), .val (.int x)] [(.int (1 : Int32))]))
            exact own_retZ X0 hlk hx Bd.returns (hb hby d7_56) (by decide) (by decide) e0 ⟨rfl, N, rfl⟩
          · refine OwnGo.fwd (fun tq' kq' => XS.icmpYes X0.here hx rfl (pc0 := 48) (pc' := 55) rfl (hb hby d7_48) rfl (own_bneq rfl rfl hc48_30).2 (by decide) (by decide) kq') ?_
            show OwnGo _ _ _ _ (s₁.setTop (mkF m 55 #[.val (.ref r), .val (.int x)] []))
            exfalso
            obtain ⟨k, hk, e⟩ := hx'
            have e := congrArg Int32.toInt e
            have : k = 0 ∨ k = 1 ∨ k = 2 ∨ k = 3 := by omega
            rcases this with rfl | rfl | rfl | rfl <;> omega
        · refine OwnGo.fwd (fun tq' kq' => XS.icmpYes X0.here hx rfl (pc0 := 41) (pc' := 55) rfl (hb hby d7_41) rfl (own_bnlt (by decide) hi_n hc41_29).2.2.2 (by decide) (by decide) kq') ?_
          show OwnGo _ _ _ _ (s₁.setTop (mkF m 55 #[.val (.ref r), .val (.int x)] []))
          exfalso
          obtain ⟨k, hk, e⟩ := hx'
          have e := congrArg Int32.toInt e
          have : k = 0 ∨ k = 1 ∨ k = 2 ∨ k = 3 := by omega
          rcases this with rfl | rfl | rfl | rfl <;> omega
theorem pn_0 : plainFor (⟨"com/example/rolestack/rolestack/NumbersByIdIdsPinLaw", "law", "(IIIII)Z"⟩ : MethodName) = true := plainFor_of_name (by first | (simp [plainName, overriddenIn]; done) | decide +kernel)
theorem ef_0 (m : MethodId) (x0 : Int32) (x1 : Int32) (x2 : Int32) (x3 : Int32) (x4 : Int32) : entryFrame m #[(.int x0), (.int x1), (.int x2), (.int x3), (.int x4)] maxLocals = mkF m 0 #[.val (.int x0), .val (.int x1), .val (.int x2), .val (.int x3), .val (.int x4), .unset, .unset, .unset, .unset] [] := by first | (simp [entryFrame, mkF, argsToLocals, Value.category, maxLocals]; done) | rfl
def Q0 (Z : State) (pa : Int32) (pb : Int32) (pc : Int32) (pd : Int32) (pk : Int32) (h0 : Heap) (n0 : Nat) (v : Option Value) (h : Heap) (L : List Loc) : Prop := v = some (.int 1) ∧ Fr n0 L
set_option maxRecDepth 65536 in
set_option maxHeartbeats 40000000 in
theorem rm0 (l : Launch) (Z : State) (a0 : Array Value) (hw : ∀ d ∈ tables_1, d.before a0 Z = true) (ws : List Jvm.Cond) (pa : Int32) (pb : Int32) (pc : Int32) (pd : Int32) (pk : Int32) (h0 : Heap) (n0 : Nat) (Z0 : n0 ≤ h0.size) :
    MetFree l x (head1 (Jvm.Cond.code x code maxLocals ret :: ws) room_1) (fun arr' U => arr' = #[(.int pa), (.int pb), (.int pc), (.int pd), (.int pk)] ∧ Z.Warmed39 U.vm ∧ U.heap = h0) (fun _ _ _ _ _ => True) (fun _ U o U' => ∃ v L, o = .returned v ∧ (Q0 Z pa pb pc pd pk h0 n0) v U'.heap L ∧ FrameEnd U o U' L room_1.cells room_1.slots) := by
  refine MetFree.of_bodySF pn_0 hisR ?_
  intro p e s m args below meth c s₁ Bd hml0 hP hK
  obtain ⟨rfl, hZ, hh⟩ := hP
  have hx := Bd.exec
  have hby := Bd.bytes
  have hlk : meth.locks = false := BodyLoose.notSynchronized Bd
  have hml : c.maxLocals = 9 := hml0
  have hown : s.vm.findClass "com/example/rolestack/rolestack/NumbersByIdIdsPinLaw" = some m.cls := findClass_of_methodNamed Bd.named
  have hnm := (name_of_methodNamed Bd.named Bd.method).1
  have X0 : Stand p l e room_1 s m #[(.int pa), (.int pb), (.int pc), (.int pd), (.int pk)] below meth c s₁ [] 0 0 := Stand.of_body Bd
  have e0 : s₁.heap = h0 := by rw [← hh, Bd.state]; rfl
  have N := Fr.nil n0
  have Zs := Z0
  change OwnGo p.tables e below (OwnEnd s (Q0 Z pa pb pc pd pk h0 n0) room_1.cells room_1.slots) _
  refine OwnGo.fwd (fun tq' kq' => castTop (ef_0 m pa pb pc pd pk) kq') ?_
  show OwnGo _ _ _ _ (s₁.setTop (mkF m 0 #[.val (.int pa), .val (.int pb), .val (.int pc), .val (.int pd), .val (.int pk), .unset, .unset, .unset, .unset] []))
  refine OwnGo.fwd (fun tq' kq' => XS.iload X0.here hx rfl (hb hby at_0) rfl kq') ?_
  show OwnGo _ _ _ _ (s₁.setTop (mkF m 2 #[.val (.int pa), .val (.int pb), .val (.int pc), .val (.int pd), .val (.int pk), .unset, .unset, .unset, .unset] [(.int pk)]))
  refine OwnGo.fwd (fun tq' kq' => X0.ldcInt hx hown (mvT hZ (hw _ (List.mem_of_getElem? (i := 0) rfl))) (g := (mkF m 2 #[.val (.int pa), .val (.int pb), .val (.int pc), .val (.int pd), .val (.int pk), .unset, .unset, .unset, .unset] [(.int pk)])) rfl (hb hby at_2) tq' kq') ?_
  show OwnGo _ _ _ _ (s₁.setTop (mkF m 4 #[.val (.int pa), .val (.int pb), .val (.int pc), .val (.int pd), .val (.int pk), .unset, .unset, .unset, .unset] [(.int (2147483647 : Int32)), (.int pk)]))
  refine OwnGo.fwd (fun tq' kq' => XS.iand X0.here hx rfl (hb hby at_4) rfl kq') ?_
  show OwnGo _ _ _ _ (s₁.setTop (mkF m 5 #[.val (.int pa), .val (.int pb), .val (.int pc), .val (.int pd), .val (.int pk), .unset, .unset, .unset, .unset] [(.int (pk &&& (2147483647 : Int32)))]))
  refine OwnGo.fwd (fun tq' kq' => XS.iconst X0.here hx rfl (hb hby at_5) kq') ?_
  show OwnGo _ _ _ _ (s₁.setTop (mkF m 6 #[.val (.int pa), .val (.int pb), .val (.int pc), .val (.int pd), .val (.int pk), .unset, .unset, .unset, .unset] [(.int (5 : Int32)), (.int (pk &&& (2147483647 : Int32)))]))
  refine OwnGo.fwd (fun tq' kq' => iremM X0 hx rfl (hb hby at_6) rfl (by decide) kq') ?_
  show OwnGo _ _ _ _ (s₁.setTop (mkF m 7 #[.val (.int pa), .val (.int pb), .val (.int pc), .val (.int pd), .val (.int pk), .unset, .unset, .unset, .unset] [(.int ((pk &&& (2147483647 : Int32)) % (5 : Int32)))]))
  obtain ⟨nn, hv_nn⟩ : ∃ q : Int32, q = ((pk &&& (2147483647 : Int32)) % (5 : Int32)) := ⟨_, rfl⟩
  rw [← hv_nn]
  show OwnGo _ _ _ _ (s₁.setTop (mkF m 7 #[.val (.int pa), .val (.int pb), .val (.int pc), .val (.int pd), .val (.int pk), .unset, .unset, .unset, .unset] [(.int nn)]))
  have hnn := own_five pk
  rw [← hv_nn] at hnn
  rcases (show nn = (0 : Int32) ∨ nn = (1 : Int32) ∨ nn = (2 : Int32) ∨ nn = (3 : Int32) ∨ nn = (4 : Int32) from hnn) with rfl | rfl | rfl | rfl | rfl
  · show OwnGo _ _ _ _ (s₁.setTop (mkF m 7 #[.val (.int pa), .val (.int pb), .val (.int pc), .val (.int pd), .val (.int pk), .unset, .unset, .unset, .unset] [(.int (0 : Int32))]))
    refine OwnGo.fwd (fun tq' kq' => XS.istore X0.here hx rfl (hb hby at_7) rfl (l' := #[.val (.int pa), .val (.int pb), .val (.int pc), .val (.int pd), .val (.int pk), .val (.int (0 : Int32)), .unset, .unset, .unset]) rfl kq') ?_
    show OwnGo _ _ _ _ (s₁.setTop (mkF m 9 #[.val (.int pa), .val (.int pb), .val (.int pc), .val (.int pd), .val (.int pk), .val (.int (0 : Int32)), .unset, .unset, .unset] []))
    refine OwnGo.fwd (fun tq' kq' => XS.iload X0.here hx rfl (hb hby at_9) rfl kq') ?_
    show OwnGo _ _ _ _ (s₁.setTop (mkF m 11 #[.val (.int pa), .val (.int pb), .val (.int pc), .val (.int pd), .val (.int pk), .val (.int (0 : Int32)), .unset, .unset, .unset] [(.int (0 : Int32))]))
    refine OwnGo.fwd (fun tq' kq' => XS.iconst X0.here hx rfl (hb hby at_11) kq') ?_
    show OwnGo _ _ _ _ (s₁.setTop (mkF m 12 #[.val (.int pa), .val (.int pb), .val (.int pc), .val (.int pd), .val (.int pk), .val (.int (0 : Int32)), .unset, .unset, .unset] [(.int (1 : Int32)), (.int (0 : Int32))]))
    have hc12_1 : (0 : Int) < (1 : Int) := by decide
    refine OwnGo.fwd (fun tq' kq' => XS.icmpYes X0.here hx rfl (pc0 := 12) (pc' := 19) rfl (hb hby at_12) rfl (own_blt (by decide) (by decide) hc12_1).1 (by decide) (by decide) kq') ?_
    show OwnGo _ _ _ _ (s₁.setTop (mkF m 19 #[.val (.int pa), .val (.int pb), .val (.int pc), .val (.int pd), .val (.int pk), .val (.int (0 : Int32)), .unset, .unset, .unset] []))
    refine OwnGo.fwd (fun tq' kq' => XS.iload X0.here hx rfl (hb hby at_19) rfl kq') ?_
    show OwnGo _ _ _ _ (s₁.setTop (mkF m 21 #[.val (.int pa), .val (.int pb), .val (.int pc), .val (.int pd), .val (.int pk), .val (.int (0 : Int32)), .unset, .unset, .unset] [(.int (0 : Int32))]))
    refine OwnGo.fwd (fun tq' kq' => XS.iconst X0.here hx rfl (hb hby at_21) kq') ?_
    show OwnGo _ _ _ _ (s₁.setTop (mkF m 22 #[.val (.int pa), .val (.int pb), .val (.int pc), .val (.int pd), .val (.int pk), .val (.int (0 : Int32)), .unset, .unset, .unset] [(.int (2 : Int32)), (.int (0 : Int32))]))
    have hc22_2 : (0 : Int) < (2 : Int) := by decide
    refine OwnGo.fwd (fun tq' kq' => XS.icmpYes X0.here hx rfl (pc0 := 22) (pc' := 29) rfl (hb hby at_22) rfl (own_blt (by decide) (by decide) hc22_2).1 (by decide) (by decide) kq') ?_
    show OwnGo _ _ _ _ (s₁.setTop (mkF m 29 #[.val (.int pa), .val (.int pb), .val (.int pc), .val (.int pd), .val (.int pk), .val (.int (0 : Int32)), .unset, .unset, .unset] []))
    refine OwnGo.fwd (fun tq' kq' => XS.iload X0.here hx rfl (hb hby at_29) rfl kq') ?_
    show OwnGo _ _ _ _ (s₁.setTop (mkF m 31 #[.val (.int pa), .val (.int pb), .val (.int pc), .val (.int pd), .val (.int pk), .val (.int (0 : Int32)), .unset, .unset, .unset] [(.int (0 : Int32))]))
    refine OwnGo.fwd (fun tq' kq' => XS.iconst X0.here hx rfl (hb hby at_31) kq') ?_
    show OwnGo _ _ _ _ (s₁.setTop (mkF m 32 #[.val (.int pa), .val (.int pb), .val (.int pc), .val (.int pd), .val (.int pk), .val (.int (0 : Int32)), .unset, .unset, .unset] [(.int (3 : Int32)), (.int (0 : Int32))]))
    have hc32_3 : (0 : Int) < (3 : Int) := by decide
    refine OwnGo.fwd (fun tq' kq' => XS.icmpYes X0.here hx rfl (pc0 := 32) (pc' := 39) rfl (hb hby at_32) rfl (own_blt (by decide) (by decide) hc32_3).1 (by decide) (by decide) kq') ?_
    show OwnGo _ _ _ _ (s₁.setTop (mkF m 39 #[.val (.int pa), .val (.int pb), .val (.int pc), .val (.int pd), .val (.int pk), .val (.int (0 : Int32)), .unset, .unset, .unset] []))
    refine OwnGo.fwd (fun tq' kq' => XS.iload X0.here hx rfl (hb hby at_39) rfl kq') ?_
    show OwnGo _ _ _ _ (s₁.setTop (mkF m 41 #[.val (.int pa), .val (.int pb), .val (.int pc), .val (.int pd), .val (.int pk), .val (.int (0 : Int32)), .unset, .unset, .unset] [(.int (0 : Int32))]))
    refine OwnGo.fwd (fun tq' kq' => XS.iconst X0.here hx rfl (hb hby at_41) kq') ?_
    show OwnGo _ _ _ _ (s₁.setTop (mkF m 42 #[.val (.int pa), .val (.int pb), .val (.int pc), .val (.int pd), .val (.int pk), .val (.int (0 : Int32)), .unset, .unset, .unset] [(.int (4 : Int32)), (.int (0 : Int32))]))
    have hc42_4 : (0 : Int) < (4 : Int) := by decide
    refine OwnGo.fwd (fun tq' kq' => XS.icmpYes X0.here hx rfl (pc0 := 42) (pc' := 51) rfl (hb hby at_42) rfl (own_blt (by decide) (by decide) hc42_4).1 (by decide) (by decide) kq') ?_
    show OwnGo _ _ _ _ (s₁.setTop (mkF m 51 #[.val (.int pa), .val (.int pb), .val (.int pc), .val (.int pd), .val (.int pk), .val (.int (0 : Int32)), .unset, .unset, .unset] []))
    obtain ⟨T5, h5, X5, e5, E5, A5, D5, -, st5⟩ := newO X0 hx hZ hown (hw _ (List.mem_of_getElem? (i := 1) rfl)) (hw _ (List.mem_of_getElem? (i := 2) rfl)) (hw _ (List.mem_of_getElem? (i := 3) rfl)) e0 (g := (mkF m 51 #[.val (.int pa), .val (.int pb), .val (.int pc), .val (.int pd), .val (.int pk), .val (.int (0 : Int32)), .unset, .unset, .unset] [])) rfl (hb hby at_51) (by decide) (by decide)
    obtain ⟨b5, g5⟩ : ∃ z, z = h0.size := ⟨_, rfl⟩
    rw [← g5] at A5 D5 st5
    have g_b5 : n0 ≤ b5 := Nat.le_trans Zs (Nat.le_of_eq g5.symm)
    have Zs := Nat.le_trans Zs E5.1
    have E_b5 := A5
    have F_ids_b5 : Fld Z h5 b5 "com/example/rolestack/rolestack/NumbersById" "ids" "[I" .null := D5 (Or.inr (hw _ (List.mem_of_getElem? (i := 12) rfl))) (ty := (.array .int)) (by decide)
    have F_numbers_b5 : Fld Z h5 b5 "com/example/rolestack/rolestack/NumbersById" "numbers" "[I" .null := D5 (Or.inr (hw _ (List.mem_of_getElem? (i := 14) rfl))) (ty := (.array .int)) (by decide)
    have F_shift_b5 : Fld Z h5 b5 "com/example/rolestack/rolestack/NumbersById" "shift" "I" (.int (0 : Int32)) := D5 (Or.inr (hw _ (List.mem_of_getElem? (i := 21) rfl))) (ty := .int) (by decide)
    have F_size_b5 : Fld Z h5 b5 "com/example/rolestack/rolestack/NumbersById" "size" "I" (.int (0 : Int32)) := D5 (Or.inl (hw _ (List.mem_of_getElem? (i := 28) rfl))) (ty := .int) (by decide)
    refine OwnGo.fwd st5 ?_
    show OwnGo _ _ _ _ (T5.setTop (mkF m 54 #[.val (.int pa), .val (.int pb), .val (.int pc), .val (.int pd), .val (.int pk), .val (.int (0 : Int32)), .unset, .unset, .unset] [(.ref b5)]))
    refine OwnGo.fwd (fun tq' kq' => XS.dup X5.here hx rfl (hb hby at_54) rfl rfl kq') ?_
    show OwnGo _ _ _ _ (T5.setTop (mkF m 55 #[.val (.int pa), .val (.int pb), .val (.int pc), .val (.int pd), .val (.int pk), .val (.int (0 : Int32)), .unset, .unset, .unset] [(.ref b5), (.ref b5)]))
    refine OwnGo.fwd (fun tq' kq' => XS.bipush X5.here hx rfl (hb hby at_55) kq') ?_
    show OwnGo _ _ _ _ (T5.setTop (mkF m 57 #[.val (.int pa), .val (.int pb), .val (.int pc), .val (.int pd), .val (.int pk), .val (.int (0 : Int32)), .unset, .unset, .unset] [(.int (16 : Int32)), (.ref b5), (.ref b5)]))
    obtain ⟨_, _, ⟨T6, L6, k6, n6⟩, -, X6, ⟨Lc6, hQ6, l6, y6, z6⟩, st6⟩ := X5.specialBack hx (y := (⟨"com/example/rolestack/rolestack/NumbersById", "<init>", "(I)V"⟩ : MethodName)) rfl hown (mvT hZ (hw _ (List.mem_of_getElem? (i := 4) rfl))) (mvT hZ (hw _ (List.mem_of_getElem? (i := 5) rfl))) (mvT hZ (hw _ (List.mem_of_getElem? (i := 6) rfl))) (by decide) (backOf (W := 1) (rm1 l Z a0 hw [] b5 h5 n0 Zs E_b5 F_ids_b5 F_numbers_b5 F_shift_b5 F_size_b5 g_b5) hZ (hw _ (List.mem_of_getElem? (i := 6) rfl)) (hw _ (List.mem_of_getElem? (i := 3) rfl)) (by decide) (by decide)) (g := (mkF m 57 #[.val (.int pa), .val (.int pb), .val (.int pc), .val (.int pd), .val (.int pk), .val (.int (0 : Int32)), .unset, .unset, .unset] [(.int (16 : Int32)), (.ref b5), (.ref b5)])) rfl (by rw [hml]; rfl) (Steps.refl _) (a := b5) (argsL := [(.int (16 : Int32))]) (rest := [(.ref b5)]) (lenOf pd_0 rfl) rfl (by show 2 * 0 + _ ≤ _; exact Nat.le_of_eq rfl) (hb hby at_57) (fun _ _ => ⟨rfl, e5, (by decide : 1 + 2 ≤ _), (by decide : 4 + 32 ≤ _)⟩)
    dsimp only [Pt.U, Pt.locs, Pt.cells, Pt.slots] at X6 l6 y6 z6 st6 hQ6
    subst l6 y6 z6
    obtain ⟨h6, eh6⟩ : ∃ z, z = T6.heap := ⟨_, rfl⟩
    rw [← eh6] at hQ6
    obtain ⟨rfl, N6q, K6, ia, na, sz_ia, sz_na, E_b5, F_ids_b5, F_numbers_b5, F_shift_b5, F_size_b5, V_ia, V_na, ne_b5_ia, ne_b5_na, ne_ia_na, g_b5, g_ia, g_na⟩ := hQ6
    have N := Fr.app N N6q
    have Zs := Nat.le_trans Zs K6.1
    have I0 := own_Inv0
    refine OwnGo.thru st6 ?_
    show OwnGo _ _ _ _ (T6.setTop (mkF m 60 #[.val (.int pa), .val (.int pb), .val (.int pc), .val (.int pd), .val (.int pk), .val (.int (0 : Int32)), .unset, .unset, .unset] [(.ref b5)]))
    refine OwnGo.fwd (fun tq' kq' => XS.astore X6.here hx rfl (hb hby at_60) rfl rfl (l' := #[.val (.int pa), .val (.int pb), .val (.int pc), .val (.int pd), .val (.int pk), .val (.int (0 : Int32)), .val (.ref b5), .unset, .unset]) rfl kq') ?_
    show OwnGo _ _ _ _ (T6.setTop (mkF m 62 #[.val (.int pa), .val (.int pb), .val (.int pc), .val (.int pd), .val (.int pk), .val (.int (0 : Int32)), .val (.ref b5), .unset, .unset] []))
    refine OwnGo.fwd (fun tq' kq' => XS.iconst X6.here hx rfl (hb hby at_62) kq') ?_
    show OwnGo _ _ _ _ (T6.setTop (mkF m 63 #[.val (.int pa), .val (.int pb), .val (.int pc), .val (.int pd), .val (.int pk), .val (.int (0 : Int32)), .val (.ref b5), .unset, .unset] [(.int (0 : Int32))]))
    refine OwnGo.fwd (fun tq' kq' => XS.istore X6.here hx rfl (hb hby at_63) rfl (l' := #[.val (.int pa), .val (.int pb), .val (.int pc), .val (.int pd), .val (.int pk), .val (.int (0 : Int32)), .val (.ref b5), .val (.int (0 : Int32)), .unset]) rfl kq') ?_
    show OwnGo _ _ _ _ (T6.setTop (mkF m 65 #[.val (.int pa), .val (.int pb), .val (.int pc), .val (.int pd), .val (.int pk), .val (.int (0 : Int32)), .val (.ref b5), .val (.int (0 : Int32)), .unset] []))
    refine OwnGo.fwd (fun tq' kq' => XS.iload X6.here hx rfl (hb hby at_65) rfl kq') ?_
    show OwnGo _ _ _ _ (T6.setTop (mkF m 67 #[.val (.int pa), .val (.int pb), .val (.int pc), .val (.int pd), .val (.int pk), .val (.int (0 : Int32)), .val (.ref b5), .val (.int (0 : Int32)), .unset] [(.int (0 : Int32))]))
    refine OwnGo.fwd (fun tq' kq' => XS.iconst X6.here hx rfl (hb hby at_67) kq') ?_
    show OwnGo _ _ _ _ (T6.setTop (mkF m 68 #[.val (.int pa), .val (.int pb), .val (.int pc), .val (.int pd), .val (.int pk), .val (.int (0 : Int32)), .val (.ref b5), .val (.int (0 : Int32)), .unset] [(.int (1 : Int32)), (.int (0 : Int32))]))
    have hc68_7 : (0 : Int) < (1 : Int) := by decide
    refine OwnGo.fwd (fun tq' kq' => XS.icmpYes X6.here hx rfl (pc0 := 68) (pc' := 81) rfl (hb hby at_68) rfl (own_blt (by decide) (by decide) hc68_7).1 (by decide) (by decide) kq') ?_
    show OwnGo _ _ _ _ (T6.setTop (mkF m 81 #[.val (.int pa), .val (.int pb), .val (.int pc), .val (.int pd), .val (.int pk), .val (.int (0 : Int32)), .val (.ref b5), .val (.int (0 : Int32)), .unset] []))
    refine OwnGo.fwd (fun tq' kq' => XS.iload X6.here hx rfl (hb hby at_81) rfl kq') ?_
    show OwnGo _ _ _ _ (T6.setTop (mkF m 83 #[.val (.int pa), .val (.int pb), .val (.int pc), .val (.int pd), .val (.int pk), .val (.int (0 : Int32)), .val (.ref b5), .val (.int (0 : Int32)), .unset] [(.int (0 : Int32))]))
    refine OwnGo.fwd (fun tq' kq' => XS.iconst X6.here hx rfl (hb hby at_83) kq') ?_
    show OwnGo _ _ _ _ (T6.setTop (mkF m 84 #[.val (.int pa), .val (.int pb), .val (.int pc), .val (.int pd), .val (.int pk), .val (.int (0 : Int32)), .val (.ref b5), .val (.int (0 : Int32)), .unset] [(.int (2 : Int32)), (.int (0 : Int32))]))
    have hc84_8 : (0 : Int) < (2 : Int) := by decide
    refine OwnGo.fwd (fun tq' kq' => XS.icmpYes X6.here hx rfl (pc0 := 84) (pc' := 102) rfl (hb hby at_84) rfl (own_blt (by decide) (by decide) hc84_8).1 (by decide) (by decide) kq') ?_
    show OwnGo _ _ _ _ (T6.setTop (mkF m 102 #[.val (.int pa), .val (.int pb), .val (.int pc), .val (.int pd), .val (.int pk), .val (.int (0 : Int32)), .val (.ref b5), .val (.int (0 : Int32)), .unset] []))
    refine OwnGo.fwd (fun tq' kq' => XS.iload X6.here hx rfl (hb hby at_102) rfl kq') ?_
    show OwnGo _ _ _ _ (T6.setTop (mkF m 104 #[.val (.int pa), .val (.int pb), .val (.int pc), .val (.int pd), .val (.int pk), .val (.int (0 : Int32)), .val (.ref b5), .val (.int (0 : Int32)), .unset] [(.int (0 : Int32))]))
    refine OwnGo.fwd (fun tq' kq' => XS.iconst X6.here hx rfl (hb hby at_104) kq') ?_
    show OwnGo _ _ _ _ (T6.setTop (mkF m 105 #[.val (.int pa), .val (.int pb), .val (.int pc), .val (.int pd), .val (.int pk), .val (.int (0 : Int32)), .val (.ref b5), .val (.int (0 : Int32)), .unset] [(.int (3 : Int32)), (.int (0 : Int32))]))
    have hc105_9 : (0 : Int) < (3 : Int) := by decide
    refine OwnGo.fwd (fun tq' kq' => XS.icmpYes X6.here hx rfl (pc0 := 105) (pc' := 128) rfl (hb hby at_105) rfl (own_blt (by decide) (by decide) hc105_9).1 (by decide) (by decide) kq') ?_
    show OwnGo _ _ _ _ (T6.setTop (mkF m 128 #[.val (.int pa), .val (.int pb), .val (.int pc), .val (.int pd), .val (.int pk), .val (.int (0 : Int32)), .val (.ref b5), .val (.int (0 : Int32)), .unset] []))
    refine OwnGo.fwd (fun tq' kq' => XS.iload X6.here hx rfl (hb hby at_128) rfl kq') ?_
    show OwnGo _ _ _ _ (T6.setTop (mkF m 130 #[.val (.int pa), .val (.int pb), .val (.int pc), .val (.int pd), .val (.int pk), .val (.int (0 : Int32)), .val (.ref b5), .val (.int (0 : Int32)), .unset] [(.int (0 : Int32))]))
    refine OwnGo.fwd (fun tq' kq' => XS.iconst X6.here hx rfl (hb hby at_130) kq') ?_
    show OwnGo _ _ _ _ (T6.setTop (mkF m 131 #[.val (.int pa), .val (.int pb), .val (.int pc), .val (.int pd), .val (.int pk), .val (.int (0 : Int32)), .val (.ref b5), .val (.int (0 : Int32)), .unset] [(.int (4 : Int32)), (.int (0 : Int32))]))
    have hc131_10 : (0 : Int) < (4 : Int) := by decide
    refine OwnGo.fwd (fun tq' kq' => XS.icmpYes X6.here hx rfl (pc0 := 131) (pc' := 159) rfl (hb hby at_131) rfl (own_blt (by decide) (by decide) hc131_10).1 (by decide) (by decide) kq') ?_
    show OwnGo _ _ _ _ (T6.setTop (mkF m 159 #[.val (.int pa), .val (.int pb), .val (.int pc), .val (.int pd), .val (.int pk), .val (.int (0 : Int32)), .val (.ref b5), .val (.int (0 : Int32)), .unset] []))
    refine OwnGo.fwd (fun tq' kq' => XS.aload X6.here hx rfl (hb hby at_159) rfl rfl kq') ?_
    show OwnGo _ _ _ _ (T6.setTop (mkF m 161 #[.val (.int pa), .val (.int pb), .val (.int pc), .val (.int pd), .val (.int pk), .val (.int (0 : Int32)), .val (.ref b5), .val (.int (0 : Int32)), .unset] [(.ref b5)]))
    obtain ⟨cq11, kq11, q11a, q11b, q11c⟩ := isOf hZ eh6.symm E_b5
    obtain ⟨_, _, ⟨T11, L11, k11, n11⟩, -, X11, ⟨Lc11, hQ11, l11, y11, z11⟩, st11⟩ := X6.virtualBack hx (y := (⟨"com/example/rolestack/rolestack/NumbersById", "ids", "()[I"⟩ : MethodName)) (z := (⟨"com/example/rolestack/rolestack/NumbersById", "ids", "()[I"⟩ : MethodName)) hown (mvT hZ (hw _ (List.mem_of_getElem? (i := 22) rfl))) (mvT hZ (hw _ (List.mem_of_getElem? (i := 23) rfl))) (notFace_of_selects (args := #[]) (mvT hZ (hw _ (List.mem_of_getElem? (i := 25) rfl)))) (mvT hZ (hw _ (List.mem_of_getElem? (i := 25) rfl))) (mvT hZ (hw _ (List.mem_of_getElem? (i := 24) rfl))) (by decide) (backOf (W := 0) (rm4 l Z a0 hw [] b5 ia na 0 (fun _ => 0) (fun _ => 0) h6 n0 Zs ⟨E_b5, F_ids_b5, F_numbers_b5, F_shift_b5, F_size_b5, V_ia, V_na, ne_b5_ia, ne_b5_na, ne_ia_na, g_b5, g_ia, g_na⟩ I0 (by omega)) hZ (hw _ (List.mem_of_getElem? (i := 26) rfl)) (hw _ (List.mem_of_getElem? (i := 3) rfl)) (by decide) (by decide)) q11a q11c (g := (mkF m 161 #[.val (.int pa), .val (.int pb), .val (.int pc), .val (.int pd), .val (.int pk), .val (.int (0 : Int32)), .val (.ref b5), .val (.int (0 : Int32)), .unset] [(.ref b5)])) rfl (by rw [hml]; rfl) (Steps.refl _) (argsL := []) (rest := []) (lenOf pd_3 rfl) rfl (by show 2 * 0 + _ ≤ _; exact Nat.le_of_eq rfl) (hb hby at_161) (fun _ _ => ⟨rfl, eh6.symm, (by decide : 3 + 1 ≤ _), (by decide : 36 + 4 ≤ _)⟩)
    dsimp only [Pt.U, Pt.locs, Pt.cells, Pt.slots] at X11 l11 y11 z11 st11 hQ11
    subst l11 y11 z11
    obtain ⟨rr, g11⟩ : ∃ z, z = h6.size := ⟨_, rfl⟩
    obtain ⟨h11, eh11⟩ : ∃ z, z = T11.heap := ⟨_, rfl⟩
    rw [← eh11] at hQ11
    obtain ⟨rfl, N11q, K11, uu, Vr11, huu⟩ := hQ11
    have N := Fr.app N N11q
    have Zs := Nat.le_trans Zs K11.1
    have E_b5 := E_b5.keep K11
    have F_ids_b5 := F_ids_b5.keep K11 nin0
    have F_numbers_b5 := F_numbers_b5.keep K11 nin0
    have F_shift_b5 := F_shift_b5.keep K11 nin0
    have F_size_b5 := F_size_b5.keep K11 nin0
    have V_ia := V_ia.keep K11 nin0
    have V_na := V_na.keep K11 nin0
    rw [← g11] at Vr11 st11
    have V_rr := Vr11
    refine OwnGo.thru st11 ?_
    show OwnGo _ _ _ _ (T11.setTop (mkF m 164 #[.val (.int pa), .val (.int pb), .val (.int pc), .val (.int pd), .val (.int pk), .val (.int (0 : Int32)), .val (.ref b5), .val (.int (0 : Int32)), .unset] [(.ref rr)]))
    refine OwnGo.fwd (fun tq' kq' => XS.astore X11.here hx rfl (hb hby at_164) rfl rfl (l' := #[.val (.int pa), .val (.int pb), .val (.int pc), .val (.int pd), .val (.int pk), .val (.int (0 : Int32)), .val (.ref b5), .val (.int (0 : Int32)), .val (.ref rr)]) rfl kq') ?_
    show OwnGo _ _ _ _ (T11.setTop (mkF m 166 #[.val (.int pa), .val (.int pb), .val (.int pc), .val (.int pd), .val (.int pk), .val (.int (0 : Int32)), .val (.ref b5), .val (.int (0 : Int32)), .val (.ref rr)] []))
    refine OwnGo.fwd (fun tq' kq' => XS.aload X11.here hx rfl (hb hby at_166) rfl rfl kq') ?_
    show OwnGo _ _ _ _ (T11.setTop (mkF m 168 #[.val (.int pa), .val (.int pb), .val (.int pc), .val (.int pd), .val (.int pk), .val (.int (0 : Int32)), .val (.ref b5), .val (.int (0 : Int32)), .val (.ref rr)] [(.ref rr)]))
    refine OwnGo.fwd (fun tq' kq' => own_len X11 hx hZ eh11.symm V_rr (g := (mkF m 168 #[.val (.int pa), .val (.int pb), .val (.int pc), .val (.int pd), .val (.int pk), .val (.int (0 : Int32)), .val (.ref b5), .val (.int (0 : Int32)), .val (.ref rr)] [(.ref rr)])) rfl rfl (hb hby at_168) tq' kq') ?_
    show OwnGo _ _ _ _ (T11.setTop (mkF m 169 #[.val (.int pa), .val (.int pb), .val (.int pc), .val (.int pd), .val (.int pk), .val (.int (0 : Int32)), .val (.ref b5), .val (.int (0 : Int32)), .val (.ref rr)] [(.int (Int32.ofNat 0))]))
    refine OwnGo.fwd (fun tq' kq' => XS.iload X11.here hx rfl (hb hby at_169) rfl kq') ?_
    show OwnGo _ _ _ _ (T11.setTop (mkF m 171 #[.val (.int pa), .val (.int pb), .val (.int pc), .val (.int pd), .val (.int pk), .val (.int (0 : Int32)), .val (.ref b5), .val (.int (0 : Int32)), .val (.ref rr)] [(.int (0 : Int32)), (.int (Int32.ofNat 0))]))
    have hc171_12 : (0 : Int) = (0 : Int) := rfl
    refine OwnGo.fwd (fun tq' kq' => XS.icmpYes X11.here hx rfl (pc0 := 171) (pc' := 176) rfl (hb hby at_171) rfl (own_beq (by decide) (by decide) hc171_12).1 (by decide) (by decide) kq') ?_
    show OwnGo _ _ _ _ (T11.setTop (mkF m 176 #[.val (.int pa), .val (.int pb), .val (.int pc), .val (.int pd), .val (.int pk), .val (.int (0 : Int32)), .val (.ref b5), .val (.int (0 : Int32)), .val (.ref rr)] []))
    refine OwnGo.fwd (fun tq' kq' => XS.iload X11.here hx rfl (hb hby at_176) rfl kq') ?_
    show OwnGo _ _ _ _ (T11.setTop (mkF m 178 #[.val (.int pa), .val (.int pb), .val (.int pc), .val (.int pd), .val (.int pk), .val (.int (0 : Int32)), .val (.ref b5), .val (.int (0 : Int32)), .val (.ref rr)] [(.int (0 : Int32))]))
    refine OwnGo.fwd (fun tq' kq' => XS.iconst X11.here hx rfl (hb hby at_178) kq') ?_
    show OwnGo _ _ _ _ (T11.setTop (mkF m 179 #[.val (.int pa), .val (.int pb), .val (.int pc), .val (.int pd), .val (.int pk), .val (.int (0 : Int32)), .val (.ref b5), .val (.int (0 : Int32)), .val (.ref rr)] [(.int (1 : Int32)), (.int (0 : Int32))]))
    have hc179_13 : (0 : Int) < (1 : Int) := by decide
    refine OwnGo.fwd (fun tq' kq' => XS.icmpYes X11.here hx rfl (pc0 := 179) (pc' := 193) rfl (hb hby at_179) rfl (own_blt (by decide) (by decide) hc179_13).1 (by decide) (by decide) kq') ?_
    show OwnGo _ _ _ _ (T11.setTop (mkF m 193 #[.val (.int pa), .val (.int pb), .val (.int pc), .val (.int pd), .val (.int pk), .val (.int (0 : Int32)), .val (.ref b5), .val (.int (0 : Int32)), .val (.ref rr)] []))
    refine OwnGo.fwd (fun tq' kq' => XS.iload X11.here hx rfl (hb hby at_193) rfl kq') ?_
    show OwnGo _ _ _ _ (T11.setTop (mkF m 195 #[.val (.int pa), .val (.int pb), .val (.int pc), .val (.int pd), .val (.int pk), .val (.int (0 : Int32)), .val (.ref b5), .val (.int (0 : Int32)), .val (.ref rr)] [(.int (0 : Int32))]))
    refine OwnGo.fwd (fun tq' kq' => XS.iconst X11.here hx rfl (hb hby at_195) kq') ?_
    show OwnGo _ _ _ _ (T11.setTop (mkF m 196 #[.val (.int pa), .val (.int pb), .val (.int pc), .val (.int pd), .val (.int pk), .val (.int (0 : Int32)), .val (.ref b5), .val (.int (0 : Int32)), .val (.ref rr)] [(.int (2 : Int32)), (.int (0 : Int32))]))
    have hc196_14 : (0 : Int) < (2 : Int) := by decide
    refine OwnGo.fwd (fun tq' kq' => XS.icmpYes X11.here hx rfl (pc0 := 196) (pc' := 210) rfl (hb hby at_196) rfl (own_blt (by decide) (by decide) hc196_14).1 (by decide) (by decide) kq') ?_
    show OwnGo _ _ _ _ (T11.setTop (mkF m 210 #[.val (.int pa), .val (.int pb), .val (.int pc), .val (.int pd), .val (.int pk), .val (.int (0 : Int32)), .val (.ref b5), .val (.int (0 : Int32)), .val (.ref rr)] []))
    refine OwnGo.fwd (fun tq' kq' => XS.iload X11.here hx rfl (hb hby at_210) rfl kq') ?_
    show OwnGo _ _ _ _ (T11.setTop (mkF m 212 #[.val (.int pa), .val (.int pb), .val (.int pc), .val (.int pd), .val (.int pk), .val (.int (0 : Int32)), .val (.ref b5), .val (.int (0 : Int32)), .val (.ref rr)] [(.int (0 : Int32))]))
    refine OwnGo.fwd (fun tq' kq' => XS.iconst X11.here hx rfl (hb hby at_212) kq') ?_
    show OwnGo _ _ _ _ (T11.setTop (mkF m 213 #[.val (.int pa), .val (.int pb), .val (.int pc), .val (.int pd), .val (.int pk), .val (.int (0 : Int32)), .val (.ref b5), .val (.int (0 : Int32)), .val (.ref rr)] [(.int (3 : Int32)), (.int (0 : Int32))]))
    have hc213_15 : (0 : Int) < (3 : Int) := by decide
    refine OwnGo.fwd (fun tq' kq' => XS.icmpYes X11.here hx rfl (pc0 := 213) (pc' := 227) rfl (hb hby at_213) rfl (own_blt (by decide) (by decide) hc213_15).1 (by decide) (by decide) kq') ?_
    show OwnGo _ _ _ _ (T11.setTop (mkF m 227 #[.val (.int pa), .val (.int pb), .val (.int pc), .val (.int pd), .val (.int pk), .val (.int (0 : Int32)), .val (.ref b5), .val (.int (0 : Int32)), .val (.ref rr)] []))
    refine OwnGo.fwd (fun tq' kq' => XS.iload X11.here hx rfl (hb hby at_227) rfl kq') ?_
    show OwnGo _ _ _ _ (T11.setTop (mkF m 229 #[.val (.int pa), .val (.int pb), .val (.int pc), .val (.int pd), .val (.int pk), .val (.int (0 : Int32)), .val (.ref b5), .val (.int (0 : Int32)), .val (.ref rr)] [(.int (0 : Int32))]))
    refine OwnGo.fwd (fun tq' kq' => XS.iconst X11.here hx rfl (hb hby at_229) kq') ?_
    show OwnGo _ _ _ _ (T11.setTop (mkF m 230 #[.val (.int pa), .val (.int pb), .val (.int pc), .val (.int pd), .val (.int pk), .val (.int (0 : Int32)), .val (.ref b5), .val (.int (0 : Int32)), .val (.ref rr)] [(.int (4 : Int32)), (.int (0 : Int32))]))
    have hc230_16 : (0 : Int) < (4 : Int) := by decide
    refine OwnGo.fwd (fun tq' kq' => XS.icmpYes X11.here hx rfl (pc0 := 230) (pc' := 244) rfl (hb hby at_230) rfl (own_blt (by decide) (by decide) hc230_16).1 (by decide) (by decide) kq') ?_
    show OwnGo _ _ _ _ (T11.setTop (mkF m 244 #[.val (.int pa), .val (.int pb), .val (.int pc), .val (.int pd), .val (.int pk), .val (.int (0 : Int32)), .val (.ref b5), .val (.int (0 : Int32)), .val (.ref rr)] []))
    refine OwnGo.fwd (fun tq' kq' => XS.iconst X11.here hx rfl (hb hby at_244) kq') ?_
    show OwnGo _ _ _ _ (T11.setTop (mkF m 245 #[.val (.int pa), .val (.int pb), .val (.int pc), .val (.int pd), .val (.int pk), .val (.int (0 : Int32)), .val (.ref b5), .val (.int (0 : Int32)), .val (.ref rr)] [(.int (1 : Int32))]))
    exact own_retZ X11 hlk hx Bd.returns (hb hby at_245) (by decide) (by decide) eh11.symm ⟨rfl, N⟩
  · show OwnGo _ _ _ _ (s₁.setTop (mkF m 7 #[.val (.int pa), .val (.int pb), .val (.int pc), .val (.int pd), .val (.int pk), .unset, .unset, .unset, .unset] [(.int (1 : Int32))]))
    refine OwnGo.fwd (fun tq' kq' => XS.istore X0.here hx rfl (hb hby at_7) rfl (l' := #[.val (.int pa), .val (.int pb), .val (.int pc), .val (.int pd), .val (.int pk), .val (.int (1 : Int32)), .unset, .unset, .unset]) rfl kq') ?_
    show OwnGo _ _ _ _ (s₁.setTop (mkF m 9 #[.val (.int pa), .val (.int pb), .val (.int pc), .val (.int pd), .val (.int pk), .val (.int (1 : Int32)), .unset, .unset, .unset] []))
    refine OwnGo.fwd (fun tq' kq' => XS.iload X0.here hx rfl (hb hby at_9) rfl kq') ?_
    show OwnGo _ _ _ _ (s₁.setTop (mkF m 11 #[.val (.int pa), .val (.int pb), .val (.int pc), .val (.int pd), .val (.int pk), .val (.int (1 : Int32)), .unset, .unset, .unset] [(.int (1 : Int32))]))
    refine OwnGo.fwd (fun tq' kq' => XS.iconst X0.here hx rfl (hb hby at_11) kq') ?_
    show OwnGo _ _ _ _ (s₁.setTop (mkF m 12 #[.val (.int pa), .val (.int pb), .val (.int pc), .val (.int pd), .val (.int pk), .val (.int (1 : Int32)), .unset, .unset, .unset] [(.int (1 : Int32)), (.int (1 : Int32))]))
    have hc12_17 : ¬ ((1 : Int) < (1 : Int)) := by decide
    refine OwnGo.fwd (fun tq' kq' => XS.icmpNo X0.here hx rfl (hb hby at_12) rfl (own_bnlt (by decide) (by decide) hc12_17).1 kq') ?_
    show OwnGo _ _ _ _ (s₁.setTop (mkF m 15 #[.val (.int pa), .val (.int pb), .val (.int pc), .val (.int pd), .val (.int pk), .val (.int (1 : Int32)), .unset, .unset, .unset] []))
    refine OwnGo.fwd (fun tq' kq' => XS.iloadN X0.here hx rfl (hb hby at_15) rfl kq') ?_
    show OwnGo _ _ _ _ (s₁.setTop (mkF m 16 #[.val (.int pa), .val (.int pb), .val (.int pc), .val (.int pd), .val (.int pk), .val (.int (1 : Int32)), .unset, .unset, .unset] [(.int pa)]))
    by_cases hc16_18 : pa.toInt = 0
    · refine OwnGo.fwd (fun tq' kq' => XS.ifYes X0.here hx rfl (pc0 := 16) (pc' := 49) rfl (hb hby at_16) rfl ((if0 _ _).trans (own_beq rfl (by decide) hc16_18).1) (by decide) (by decide) kq') ?_
      show OwnGo _ _ _ _ (s₁.setTop (mkF m 49 #[.val (.int pa), .val (.int pb), .val (.int pc), .val (.int pd), .val (.int pk), .val (.int (1 : Int32)), .unset, .unset, .unset] []))
      refine OwnGo.fwd (fun tq' kq' => XS.iconst X0.here hx rfl (hb hby at_49) kq') ?_
      show OwnGo _ _ _ _ (s₁.setTop (mkF m 50 #[.val (.int pa), .val (.int pb), .val (.int pc), .val (.int pd), .val (.int pk), .val (.int (1 : Int32)), .unset, .unset, .unset] [(.int (1 : Int32))]))
      exact own_retZ X0 hlk hx Bd.returns (hb hby at_50) (by decide) (by decide) e0 ⟨rfl, N⟩
    · refine OwnGo.fwd (fun tq' kq' => XS.ifNo X0.here hx rfl (hb hby at_16) rfl ((if0 _ _).trans (own_bneq rfl (by decide) hc16_18).1) kq') ?_
      show OwnGo _ _ _ _ (s₁.setTop (mkF m 19 #[.val (.int pa), .val (.int pb), .val (.int pc), .val (.int pd), .val (.int pk), .val (.int (1 : Int32)), .unset, .unset, .unset] []))
      refine OwnGo.fwd (fun tq' kq' => XS.iload X0.here hx rfl (hb hby at_19) rfl kq') ?_
      show OwnGo _ _ _ _ (s₁.setTop (mkF m 21 #[.val (.int pa), .val (.int pb), .val (.int pc), .val (.int pd), .val (.int pk), .val (.int (1 : Int32)), .unset, .unset, .unset] [(.int (1 : Int32))]))
      refine OwnGo.fwd (fun tq' kq' => XS.iconst X0.here hx rfl (hb hby at_21) kq') ?_
      show OwnGo _ _ _ _ (s₁.setTop (mkF m 22 #[.val (.int pa), .val (.int pb), .val (.int pc), .val (.int pd), .val (.int pk), .val (.int (1 : Int32)), .unset, .unset, .unset] [(.int (2 : Int32)), (.int (1 : Int32))]))
      have hc22_19 : (1 : Int) < (2 : Int) := by decide
      refine OwnGo.fwd (fun tq' kq' => XS.icmpYes X0.here hx rfl (pc0 := 22) (pc' := 29) rfl (hb hby at_22) rfl (own_blt (by decide) (by decide) hc22_19).1 (by decide) (by decide) kq') ?_
      show OwnGo _ _ _ _ (s₁.setTop (mkF m 29 #[.val (.int pa), .val (.int pb), .val (.int pc), .val (.int pd), .val (.int pk), .val (.int (1 : Int32)), .unset, .unset, .unset] []))
      refine OwnGo.fwd (fun tq' kq' => XS.iload X0.here hx rfl (hb hby at_29) rfl kq') ?_
      show OwnGo _ _ _ _ (s₁.setTop (mkF m 31 #[.val (.int pa), .val (.int pb), .val (.int pc), .val (.int pd), .val (.int pk), .val (.int (1 : Int32)), .unset, .unset, .unset] [(.int (1 : Int32))]))
      refine OwnGo.fwd (fun tq' kq' => XS.iconst X0.here hx rfl (hb hby at_31) kq') ?_
      show OwnGo _ _ _ _ (s₁.setTop (mkF m 32 #[.val (.int pa), .val (.int pb), .val (.int pc), .val (.int pd), .val (.int pk), .val (.int (1 : Int32)), .unset, .unset, .unset] [(.int (3 : Int32)), (.int (1 : Int32))]))
      have hc32_20 : (1 : Int) < (3 : Int) := by decide
      refine OwnGo.fwd (fun tq' kq' => XS.icmpYes X0.here hx rfl (pc0 := 32) (pc' := 39) rfl (hb hby at_32) rfl (own_blt (by decide) (by decide) hc32_20).1 (by decide) (by decide) kq') ?_
      show OwnGo _ _ _ _ (s₁.setTop (mkF m 39 #[.val (.int pa), .val (.int pb), .val (.int pc), .val (.int pd), .val (.int pk), .val (.int (1 : Int32)), .unset, .unset, .unset] []))
      refine OwnGo.fwd (fun tq' kq' => XS.iload X0.here hx rfl (hb hby at_39) rfl kq') ?_
      show OwnGo _ _ _ _ (s₁.setTop (mkF m 41 #[.val (.int pa), .val (.int pb), .val (.int pc), .val (.int pd), .val (.int pk), .val (.int (1 : Int32)), .unset, .unset, .unset] [(.int (1 : Int32))]))
      refine OwnGo.fwd (fun tq' kq' => XS.iconst X0.here hx rfl (hb hby at_41) kq') ?_
      show OwnGo _ _ _ _ (s₁.setTop (mkF m 42 #[.val (.int pa), .val (.int pb), .val (.int pc), .val (.int pd), .val (.int pk), .val (.int (1 : Int32)), .unset, .unset, .unset] [(.int (4 : Int32)), (.int (1 : Int32))]))
      have hc42_21 : (1 : Int) < (4 : Int) := by decide
      refine OwnGo.fwd (fun tq' kq' => XS.icmpYes X0.here hx rfl (pc0 := 42) (pc' := 51) rfl (hb hby at_42) rfl (own_blt (by decide) (by decide) hc42_21).1 (by decide) (by decide) kq') ?_
      show OwnGo _ _ _ _ (s₁.setTop (mkF m 51 #[.val (.int pa), .val (.int pb), .val (.int pc), .val (.int pd), .val (.int pk), .val (.int (1 : Int32)), .unset, .unset, .unset] []))
      have nz_pa := own_nz hc16_18
      obtain ⟨T22, h22, X22, e22, E22, A22, D22, -, st22⟩ := newO X0 hx hZ hown (hw _ (List.mem_of_getElem? (i := 1) rfl)) (hw _ (List.mem_of_getElem? (i := 2) rfl)) (hw _ (List.mem_of_getElem? (i := 3) rfl)) e0 (g := (mkF m 51 #[.val (.int pa), .val (.int pb), .val (.int pc), .val (.int pd), .val (.int pk), .val (.int (1 : Int32)), .unset, .unset, .unset] [])) rfl (hb hby at_51) (by decide) (by decide)
      obtain ⟨b22, g22⟩ : ∃ z, z = h0.size := ⟨_, rfl⟩
      rw [← g22] at A22 D22 st22
      have g_b22 : n0 ≤ b22 := Nat.le_trans Zs (Nat.le_of_eq g22.symm)
      have Zs := Nat.le_trans Zs E22.1
      have E_b22 := A22
      have F_ids_b22 : Fld Z h22 b22 "com/example/rolestack/rolestack/NumbersById" "ids" "[I" .null := D22 (Or.inr (hw _ (List.mem_of_getElem? (i := 12) rfl))) (ty := (.array .int)) (by decide)
      have F_numbers_b22 : Fld Z h22 b22 "com/example/rolestack/rolestack/NumbersById" "numbers" "[I" .null := D22 (Or.inr (hw _ (List.mem_of_getElem? (i := 14) rfl))) (ty := (.array .int)) (by decide)
      have F_shift_b22 : Fld Z h22 b22 "com/example/rolestack/rolestack/NumbersById" "shift" "I" (.int (0 : Int32)) := D22 (Or.inr (hw _ (List.mem_of_getElem? (i := 21) rfl))) (ty := .int) (by decide)
      have F_size_b22 : Fld Z h22 b22 "com/example/rolestack/rolestack/NumbersById" "size" "I" (.int (0 : Int32)) := D22 (Or.inl (hw _ (List.mem_of_getElem? (i := 28) rfl))) (ty := .int) (by decide)
      refine OwnGo.fwd st22 ?_
      show OwnGo _ _ _ _ (T22.setTop (mkF m 54 #[.val (.int pa), .val (.int pb), .val (.int pc), .val (.int pd), .val (.int pk), .val (.int (1 : Int32)), .unset, .unset, .unset] [(.ref b22)]))
      refine OwnGo.fwd (fun tq' kq' => XS.dup X22.here hx rfl (hb hby at_54) rfl rfl kq') ?_
      show OwnGo _ _ _ _ (T22.setTop (mkF m 55 #[.val (.int pa), .val (.int pb), .val (.int pc), .val (.int pd), .val (.int pk), .val (.int (1 : Int32)), .unset, .unset, .unset] [(.ref b22), (.ref b22)]))
      refine OwnGo.fwd (fun tq' kq' => XS.bipush X22.here hx rfl (hb hby at_55) kq') ?_
      show OwnGo _ _ _ _ (T22.setTop (mkF m 57 #[.val (.int pa), .val (.int pb), .val (.int pc), .val (.int pd), .val (.int pk), .val (.int (1 : Int32)), .unset, .unset, .unset] [(.int (16 : Int32)), (.ref b22), (.ref b22)]))
      obtain ⟨_, _, ⟨T23, L23, k23, n23⟩, -, X23, ⟨Lc23, hQ23, l23, y23, z23⟩, st23⟩ := X22.specialBack hx (y := (⟨"com/example/rolestack/rolestack/NumbersById", "<init>", "(I)V"⟩ : MethodName)) rfl hown (mvT hZ (hw _ (List.mem_of_getElem? (i := 4) rfl))) (mvT hZ (hw _ (List.mem_of_getElem? (i := 5) rfl))) (mvT hZ (hw _ (List.mem_of_getElem? (i := 6) rfl))) (by decide) (backOf (W := 1) (rm1 l Z a0 hw [] b22 h22 n0 Zs E_b22 F_ids_b22 F_numbers_b22 F_shift_b22 F_size_b22 g_b22) hZ (hw _ (List.mem_of_getElem? (i := 6) rfl)) (hw _ (List.mem_of_getElem? (i := 3) rfl)) (by decide) (by decide)) (g := (mkF m 57 #[.val (.int pa), .val (.int pb), .val (.int pc), .val (.int pd), .val (.int pk), .val (.int (1 : Int32)), .unset, .unset, .unset] [(.int (16 : Int32)), (.ref b22), (.ref b22)])) rfl (by rw [hml]; rfl) (Steps.refl _) (a := b22) (argsL := [(.int (16 : Int32))]) (rest := [(.ref b22)]) (lenOf pd_0 rfl) rfl (by show 2 * 0 + _ ≤ _; exact Nat.le_of_eq rfl) (hb hby at_57) (fun _ _ => ⟨rfl, e22, (by decide : 1 + 2 ≤ _), (by decide : 4 + 32 ≤ _)⟩)
      dsimp only [Pt.U, Pt.locs, Pt.cells, Pt.slots] at X23 l23 y23 z23 st23 hQ23
      subst l23 y23 z23
      obtain ⟨h23, eh23⟩ : ∃ z, z = T23.heap := ⟨_, rfl⟩
      rw [← eh23] at hQ23
      obtain ⟨rfl, N23q, K23, ia, na, sz_ia, sz_na, E_b22, F_ids_b22, F_numbers_b22, F_shift_b22, F_size_b22, V_ia, V_na, ne_b22_ia, ne_b22_na, ne_ia_na, g_b22, g_ia, g_na⟩ := hQ23
      have N := Fr.app N N23q
      have Zs := Nat.le_trans Zs K23.1
      have I0 := own_Inv0
      refine OwnGo.thru st23 ?_
      show OwnGo _ _ _ _ (T23.setTop (mkF m 60 #[.val (.int pa), .val (.int pb), .val (.int pc), .val (.int pd), .val (.int pk), .val (.int (1 : Int32)), .unset, .unset, .unset] [(.ref b22)]))
      refine OwnGo.fwd (fun tq' kq' => XS.astore X23.here hx rfl (hb hby at_60) rfl rfl (l' := #[.val (.int pa), .val (.int pb), .val (.int pc), .val (.int pd), .val (.int pk), .val (.int (1 : Int32)), .val (.ref b22), .unset, .unset]) rfl kq') ?_
      show OwnGo _ _ _ _ (T23.setTop (mkF m 62 #[.val (.int pa), .val (.int pb), .val (.int pc), .val (.int pd), .val (.int pk), .val (.int (1 : Int32)), .val (.ref b22), .unset, .unset] []))
      refine OwnGo.fwd (fun tq' kq' => XS.iconst X23.here hx rfl (hb hby at_62) kq') ?_
      show OwnGo _ _ _ _ (T23.setTop (mkF m 63 #[.val (.int pa), .val (.int pb), .val (.int pc), .val (.int pd), .val (.int pk), .val (.int (1 : Int32)), .val (.ref b22), .unset, .unset] [(.int (0 : Int32))]))
      refine OwnGo.fwd (fun tq' kq' => XS.istore X23.here hx rfl (hb hby at_63) rfl (l' := #[.val (.int pa), .val (.int pb), .val (.int pc), .val (.int pd), .val (.int pk), .val (.int (1 : Int32)), .val (.ref b22), .val (.int (0 : Int32)), .unset]) rfl kq') ?_
      show OwnGo _ _ _ _ (T23.setTop (mkF m 65 #[.val (.int pa), .val (.int pb), .val (.int pc), .val (.int pd), .val (.int pk), .val (.int (1 : Int32)), .val (.ref b22), .val (.int (0 : Int32)), .unset] []))
      refine OwnGo.fwd (fun tq' kq' => XS.iload X23.here hx rfl (hb hby at_65) rfl kq') ?_
      show OwnGo _ _ _ _ (T23.setTop (mkF m 67 #[.val (.int pa), .val (.int pb), .val (.int pc), .val (.int pd), .val (.int pk), .val (.int (1 : Int32)), .val (.ref b22), .val (.int (0 : Int32)), .unset] [(.int (1 : Int32))]))
      refine OwnGo.fwd (fun tq' kq' => XS.iconst X23.here hx rfl (hb hby at_67) kq') ?_
      show OwnGo _ _ _ _ (T23.setTop (mkF m 68 #[.val (.int pa), .val (.int pb), .val (.int pc), .val (.int pd), .val (.int pk), .val (.int (1 : Int32)), .val (.ref b22), .val (.int (0 : Int32)), .unset] [(.int (1 : Int32)), (.int (1 : Int32))]))
      have hc68_24 : ¬ ((1 : Int) < (1 : Int)) := by decide
      refine OwnGo.fwd (fun tq' kq' => XS.icmpNo X23.here hx rfl (hb hby at_68) rfl (own_bnlt (by decide) (by decide) hc68_24).1 kq') ?_
      show OwnGo _ _ _ _ (T23.setTop (mkF m 71 #[.val (.int pa), .val (.int pb), .val (.int pc), .val (.int pd), .val (.int pk), .val (.int (1 : Int32)), .val (.ref b22), .val (.int (0 : Int32)), .unset] []))
      refine OwnGo.fwd (fun tq' kq' => XS.aload X23.here hx rfl (hb hby at_71) rfl rfl kq') ?_
      show OwnGo _ _ _ _ (T23.setTop (mkF m 73 #[.val (.int pa), .val (.int pb), .val (.int pc), .val (.int pd), .val (.int pk), .val (.int (1 : Int32)), .val (.ref b22), .val (.int (0 : Int32)), .unset] [(.ref b22)]))
      refine OwnGo.fwd (fun tq' kq' => XS.iloadN X23.here hx rfl (hb hby at_73) rfl kq') ?_
      show OwnGo _ _ _ _ (T23.setTop (mkF m 74 #[.val (.int pa), .val (.int pb), .val (.int pc), .val (.int pd), .val (.int pk), .val (.int (1 : Int32)), .val (.ref b22), .val (.int (0 : Int32)), .unset] [(.int pa), (.ref b22)]))
      refine OwnGo.fwd (fun tq' kq' => XS.iconst X23.here hx rfl (hb hby at_74) kq') ?_
      show OwnGo _ _ _ _ (T23.setTop (mkF m 75 #[.val (.int pa), .val (.int pb), .val (.int pc), .val (.int pd), .val (.int pk), .val (.int (1 : Int32)), .val (.ref b22), .val (.int (0 : Int32)), .unset] [(.int (1 : Int32)), (.int pa), (.ref b22)]))
      obtain ⟨cq25, kq25, q25a, q25b, q25c⟩ := isOf hZ eh23.symm E_b22
      obtain ⟨_, _, ⟨T25, L25, k25, n25⟩, -, X25, ⟨Lc25, hQ25, l25, y25, z25⟩, st25⟩ := X23.virtualBack hx (y := (⟨"com/example/rolestack/rolestack/NumbersById", "put", "(II)V"⟩ : MethodName)) (z := (⟨"com/example/rolestack/rolestack/NumbersById", "put", "(II)V"⟩ : MethodName)) hown (mvT hZ (hw _ (List.mem_of_getElem? (i := 29) rfl))) (mvT hZ (hw _ (List.mem_of_getElem? (i := 30) rfl))) (notFace_of_selects (args := #[]) (mvT hZ (hw _ (List.mem_of_getElem? (i := 32) rfl)))) (mvT hZ (hw _ (List.mem_of_getElem? (i := 32) rfl))) (mvT hZ (hw _ (List.mem_of_getElem? (i := 31) rfl))) (by decide) (backOf (W := 0) (rm5 l Z a0 hw [] b22 ia na 0 (fun _ => 0) (fun _ => 0) pa (1 : Int32) h23 n0 Zs ⟨E_b22, F_ids_b22, F_numbers_b22, F_shift_b22, F_size_b22, V_ia, V_na, ne_b22_ia, ne_b22_na, ne_ia_na, g_b22, g_ia, g_na⟩ I0 (by decide) nz_pa) hZ (hw _ (List.mem_of_getElem? (i := 33) rfl)) (hw _ (List.mem_of_getElem? (i := 3) rfl)) (by decide) (by decide)) q25a q25c (g := (mkF m 75 #[.val (.int pa), .val (.int pb), .val (.int pc), .val (.int pd), .val (.int pk), .val (.int (1 : Int32)), .val (.ref b22), .val (.int (0 : Int32)), .unset] [(.int (1 : Int32)), (.int pa), (.ref b22)])) rfl (by rw [hml]; rfl) (Steps.refl _) (argsL := [(.int pa), (.int (1 : Int32))]) (rest := []) (lenOf pd_4 rfl) rfl (by show 2 * 0 + _ ≤ _; exact Nat.le_of_eq rfl) (hb hby at_75) (fun _ _ => ⟨rfl, eh23.symm, (by decide : 3 + 0 ≤ _), (by decide : 36 + 0 ≤ _)⟩)
      dsimp only [Pt.U, Pt.locs, Pt.cells, Pt.slots] at X25 l25 y25 z25 st25 hQ25
      subst l25 y25 z25
      obtain ⟨h25, eh25⟩ : ∃ z, z = T25.heap := ⟨_, rfl⟩
      rw [← eh25] at hQ25
      obtain ⟨rfl, N25q, K25, n1, f1, u1, ⟨E_b22, F_ids_b22, F_numbers_b22, F_shift_b22, F_size_b22, V_ia, V_na, ne_b22_ia, ne_b22_na, ne_ia_na, g_b22, g_ia, g_na⟩, HP1⟩ := hQ25
      have N := Fr.app N N25q
      have Zs := Nat.le_trans Zs K25.1
      have hle1 : n1 ≤ 0 + 1 := by rcases HP1.2.1 with q | q <;> omega
      refine OwnGo.thru st25 ?_
      show OwnGo _ _ _ _ (T25.setTop (mkF m 78 #[.val (.int pa), .val (.int pb), .val (.int pc), .val (.int pd), .val (.int pk), .val (.int (1 : Int32)), .val (.ref b22), .val (.int (0 : Int32)), .unset] []))
      have J81 : ∀ dd : Int32, dd = Int32.ofNat n1 → OwnGo p.tables e below (OwnEnd s (Q0 Z pa pb pc pd pk h0 n0) room_1.cells room_1.slots) (T25.setTop (mkF m 81 #[.val (.int pa), .val (.int pb), .val (.int pc), .val (.int pd), .val (.int pk), .val (.int (1 : Int32)), .val (.ref b22), .val (.int dd), .unset] [])) := by
        intro dd hdd
        subst hdd
        show OwnGo _ _ _ _ (T25.setTop (mkF m 81 #[.val (.int pa), .val (.int pb), .val (.int pc), .val (.int pd), .val (.int pk), .val (.int (1 : Int32)), .val (.ref b22), .val (.int (Int32.ofNat n1)), .unset] []))
        refine OwnGo.fwd (fun tq' kq' => XS.iload X25.here hx rfl (hb hby at_81) rfl kq') ?_
        show OwnGo _ _ _ _ (T25.setTop (mkF m 83 #[.val (.int pa), .val (.int pb), .val (.int pc), .val (.int pd), .val (.int pk), .val (.int (1 : Int32)), .val (.ref b22), .val (.int (Int32.ofNat n1)), .unset] [(.int (1 : Int32))]))
        refine OwnGo.fwd (fun tq' kq' => XS.iconst X25.here hx rfl (hb hby at_83) kq') ?_
        show OwnGo _ _ _ _ (T25.setTop (mkF m 84 #[.val (.int pa), .val (.int pb), .val (.int pc), .val (.int pd), .val (.int pk), .val (.int (1 : Int32)), .val (.ref b22), .val (.int (Int32.ofNat n1)), .unset] [(.int (2 : Int32)), (.int (1 : Int32))]))
        have hc84_26 : (1 : Int) < (2 : Int) := by decide
        refine OwnGo.fwd (fun tq' kq' => XS.icmpYes X25.here hx rfl (pc0 := 84) (pc' := 102) rfl (hb hby at_84) rfl (own_blt (by decide) (by decide) hc84_26).1 (by decide) (by decide) kq') ?_
        show OwnGo _ _ _ _ (T25.setTop (mkF m 102 #[.val (.int pa), .val (.int pb), .val (.int pc), .val (.int pd), .val (.int pk), .val (.int (1 : Int32)), .val (.ref b22), .val (.int (Int32.ofNat n1)), .unset] []))
        refine OwnGo.fwd (fun tq' kq' => XS.iload X25.here hx rfl (hb hby at_102) rfl kq') ?_
        show OwnGo _ _ _ _ (T25.setTop (mkF m 104 #[.val (.int pa), .val (.int pb), .val (.int pc), .val (.int pd), .val (.int pk), .val (.int (1 : Int32)), .val (.ref b22), .val (.int (Int32.ofNat n1)), .unset] [(.int (1 : Int32))]))
        refine OwnGo.fwd (fun tq' kq' => XS.iconst X25.here hx rfl (hb hby at_104) kq') ?_
        show OwnGo _ _ _ _ (T25.setTop (mkF m 105 #[.val (.int pa), .val (.int pb), .val (.int pc), .val (.int pd), .val (.int pk), .val (.int (1 : Int32)), .val (.ref b22), .val (.int (Int32.ofNat n1)), .unset] [(.int (3 : Int32)), (.int (1 : Int32))]))
        have hc105_27 : (1 : Int) < (3 : Int) := by decide
        refine OwnGo.fwd (fun tq' kq' => XS.icmpYes X25.here hx rfl (pc0 := 105) (pc' := 128) rfl (hb hby at_105) rfl (own_blt (by decide) (by decide) hc105_27).1 (by decide) (by decide) kq') ?_
        show OwnGo _ _ _ _ (T25.setTop (mkF m 128 #[.val (.int pa), .val (.int pb), .val (.int pc), .val (.int pd), .val (.int pk), .val (.int (1 : Int32)), .val (.ref b22), .val (.int (Int32.ofNat n1)), .unset] []))
        refine OwnGo.fwd (fun tq' kq' => XS.iload X25.here hx rfl (hb hby at_128) rfl kq') ?_
        show OwnGo _ _ _ _ (T25.setTop (mkF m 130 #[.val (.int pa), .val (.int pb), .val (.int pc), .val (.int pd), .val (.int pk), .val (.int (1 : Int32)), .val (.ref b22), .val (.int (Int32.ofNat n1)), .unset] [(.int (1 : Int32))]))
        refine OwnGo.fwd (fun tq' kq' => XS.iconst X25.here hx rfl (hb hby at_130) kq') ?_
        show OwnGo _ _ _ _ (T25.setTop (mkF m 131 #[.val (.int pa), .val (.int pb), .val (.int pc), .val (.int pd), .val (.int pk), .val (.int (1 : Int32)), .val (.ref b22), .val (.int (Int32.ofNat n1)), .unset] [(.int (4 : Int32)), (.int (1 : Int32))]))
        have hc131_28 : (1 : Int) < (4 : Int) := by decide
        refine OwnGo.fwd (fun tq' kq' => XS.icmpYes X25.here hx rfl (pc0 := 131) (pc' := 159) rfl (hb hby at_131) rfl (own_blt (by decide) (by decide) hc131_28).1 (by decide) (by decide) kq') ?_
        show OwnGo _ _ _ _ (T25.setTop (mkF m 159 #[.val (.int pa), .val (.int pb), .val (.int pc), .val (.int pd), .val (.int pk), .val (.int (1 : Int32)), .val (.ref b22), .val (.int (Int32.ofNat n1)), .unset] []))
        refine OwnGo.fwd (fun tq' kq' => XS.aload X25.here hx rfl (hb hby at_159) rfl rfl kq') ?_
        show OwnGo _ _ _ _ (T25.setTop (mkF m 161 #[.val (.int pa), .val (.int pb), .val (.int pc), .val (.int pd), .val (.int pk), .val (.int (1 : Int32)), .val (.ref b22), .val (.int (Int32.ofNat n1)), .unset] [(.ref b22)]))
        obtain ⟨cq29, kq29, q29a, q29b, q29c⟩ := isOf hZ eh25.symm E_b22
        obtain ⟨_, _, ⟨T29, L29, k29, n29⟩, -, X29, ⟨Lc29, hQ29, l29, y29, z29⟩, st29⟩ := X25.virtualBack hx (y := (⟨"com/example/rolestack/rolestack/NumbersById", "ids", "()[I"⟩ : MethodName)) (z := (⟨"com/example/rolestack/rolestack/NumbersById", "ids", "()[I"⟩ : MethodName)) hown (mvT hZ (hw _ (List.mem_of_getElem? (i := 22) rfl))) (mvT hZ (hw _ (List.mem_of_getElem? (i := 23) rfl))) (notFace_of_selects (args := #[]) (mvT hZ (hw _ (List.mem_of_getElem? (i := 25) rfl)))) (mvT hZ (hw _ (List.mem_of_getElem? (i := 25) rfl))) (mvT hZ (hw _ (List.mem_of_getElem? (i := 24) rfl))) (by decide) (backOf (W := 0) (rm4 l Z a0 hw [] b22 ia na n1 f1 u1 h25 n0 Zs ⟨E_b22, F_ids_b22, F_numbers_b22, F_shift_b22, F_size_b22, V_ia, V_na, ne_b22_ia, ne_b22_na, ne_ia_na, g_b22, g_ia, g_na⟩ HP1.1 (by omega)) hZ (hw _ (List.mem_of_getElem? (i := 26) rfl)) (hw _ (List.mem_of_getElem? (i := 3) rfl)) (by decide) (by decide)) q29a q29c (g := (mkF m 161 #[.val (.int pa), .val (.int pb), .val (.int pc), .val (.int pd), .val (.int pk), .val (.int (1 : Int32)), .val (.ref b22), .val (.int (Int32.ofNat n1)), .unset] [(.ref b22)])) rfl (by rw [hml]; rfl) (Steps.refl _) (argsL := []) (rest := []) (lenOf pd_3 rfl) rfl (by show 2 * 0 + _ ≤ _; exact Nat.le_of_eq rfl) (hb hby at_161) (fun _ _ => ⟨rfl, eh25.symm, (by decide : 3 + 1 ≤ _), (by decide : 36 + 4 ≤ _)⟩)
        dsimp only [Pt.U, Pt.locs, Pt.cells, Pt.slots] at X29 l29 y29 z29 st29 hQ29
        subst l29 y29 z29
        obtain ⟨rr, g29⟩ : ∃ z, z = h25.size := ⟨_, rfl⟩
        obtain ⟨h29, eh29⟩ : ∃ z, z = T29.heap := ⟨_, rfl⟩
        rw [← eh29] at hQ29
        obtain ⟨rfl, N29q, K29, uu, Vr29, huu⟩ := hQ29
        have N := Fr.app N N29q
        have Zs := Nat.le_trans Zs K29.1
        have E_b22 := E_b22.keep K29
        have F_ids_b22 := F_ids_b22.keep K29 nin0
        have F_numbers_b22 := F_numbers_b22.keep K29 nin0
        have F_shift_b22 := F_shift_b22.keep K29 nin0
        have F_size_b22 := F_size_b22.keep K29 nin0
        have V_ia := V_ia.keep K29 nin0
        have V_na := V_na.keep K29 nin0
        rw [← g29] at Vr29 st29
        have V_rr := Vr29
        refine OwnGo.thru st29 ?_
        show OwnGo _ _ _ _ (T29.setTop (mkF m 164 #[.val (.int pa), .val (.int pb), .val (.int pc), .val (.int pd), .val (.int pk), .val (.int (1 : Int32)), .val (.ref b22), .val (.int (Int32.ofNat n1)), .unset] [(.ref rr)]))
        refine OwnGo.fwd (fun tq' kq' => XS.astore X29.here hx rfl (hb hby at_164) rfl rfl (l' := #[.val (.int pa), .val (.int pb), .val (.int pc), .val (.int pd), .val (.int pk), .val (.int (1 : Int32)), .val (.ref b22), .val (.int (Int32.ofNat n1)), .val (.ref rr)]) rfl kq') ?_
        show OwnGo _ _ _ _ (T29.setTop (mkF m 166 #[.val (.int pa), .val (.int pb), .val (.int pc), .val (.int pd), .val (.int pk), .val (.int (1 : Int32)), .val (.ref b22), .val (.int (Int32.ofNat n1)), .val (.ref rr)] []))
        refine OwnGo.fwd (fun tq' kq' => XS.aload X29.here hx rfl (hb hby at_166) rfl rfl kq') ?_
        show OwnGo _ _ _ _ (T29.setTop (mkF m 168 #[.val (.int pa), .val (.int pb), .val (.int pc), .val (.int pd), .val (.int pk), .val (.int (1 : Int32)), .val (.ref b22), .val (.int (Int32.ofNat n1)), .val (.ref rr)] [(.ref rr)]))
        refine OwnGo.fwd (fun tq' kq' => own_len X29 hx hZ eh29.symm V_rr (g := (mkF m 168 #[.val (.int pa), .val (.int pb), .val (.int pc), .val (.int pd), .val (.int pk), .val (.int (1 : Int32)), .val (.ref b22), .val (.int (Int32.ofNat n1)), .val (.ref rr)] [(.ref rr)])) rfl rfl (hb hby at_168) tq' kq') ?_
        show OwnGo _ _ _ _ (T29.setTop (mkF m 169 #[.val (.int pa), .val (.int pb), .val (.int pc), .val (.int pd), .val (.int pk), .val (.int (1 : Int32)), .val (.ref b22), .val (.int (Int32.ofNat n1)), .val (.ref rr)] [(.int (Int32.ofNat n1))]))
        refine OwnGo.fwd (fun tq' kq' => XS.iload X29.here hx rfl (hb hby at_169) rfl kq') ?_
        show OwnGo _ _ _ _ (T29.setTop (mkF m 171 #[.val (.int pa), .val (.int pb), .val (.int pc), .val (.int pd), .val (.int pk), .val (.int (1 : Int32)), .val (.ref b22), .val (.int (Int32.ofNat n1)), .val (.ref rr)] [(.int (Int32.ofNat n1)), (.int (Int32.ofNat n1))]))
        have hc171_30 : (n1 : Int) = (n1 : Int) := rfl
        refine OwnGo.fwd (fun tq' kq' => XS.icmpYes X29.here hx rfl (pc0 := 171) (pc' := 176) rfl (hb hby at_171) rfl (own_beq (own_ofNat (by omega)) (own_ofNat (by omega)) hc171_30).1 (by decide) (by decide) kq') ?_
        show OwnGo _ _ _ _ (T29.setTop (mkF m 176 #[.val (.int pa), .val (.int pb), .val (.int pc), .val (.int pd), .val (.int pk), .val (.int (1 : Int32)), .val (.ref b22), .val (.int (Int32.ofNat n1)), .val (.ref rr)] []))
        refine OwnGo.fwd (fun tq' kq' => XS.iload X29.here hx rfl (hb hby at_176) rfl kq') ?_
        show OwnGo _ _ _ _ (T29.setTop (mkF m 178 #[.val (.int pa), .val (.int pb), .val (.int pc), .val (.int pd), .val (.int pk), .val (.int (1 : Int32)), .val (.ref b22), .val (.int (Int32.ofNat n1)), .val (.ref rr)] [(.int (1 : Int32))]))
        refine OwnGo.fwd (fun tq' kq' => XS.iconst X29.here hx rfl (hb hby at_178) kq') ?_
        show OwnGo _ _ _ _ (T29.setTop (mkF m 179 #[.val (.int pa), .val (.int pb), .val (.int pc), .val (.int pd), .val (.int pk), .val (.int (1 : Int32)), .val (.ref b22), .val (.int (Int32.ofNat n1)), .val (.ref rr)] [(.int (1 : Int32)), (.int (1 : Int32))]))
        have hc179_31 : ¬ ((1 : Int) < (1 : Int)) := by decide
        refine OwnGo.fwd (fun tq' kq' => XS.icmpNo X29.here hx rfl (hb hby at_179) rfl (own_bnlt (by decide) (by decide) hc179_31).1 kq') ?_
        show OwnGo _ _ _ _ (T29.setTop (mkF m 182 #[.val (.int pa), .val (.int pb), .val (.int pc), .val (.int pd), .val (.int pk), .val (.int (1 : Int32)), .val (.ref b22), .val (.int (Int32.ofNat n1)), .val (.ref rr)] []))
        refine OwnGo.fwd (fun tq' kq' => XS.aload X29.here hx rfl (hb hby at_182) rfl rfl kq') ?_
        show OwnGo _ _ _ _ (T29.setTop (mkF m 184 #[.val (.int pa), .val (.int pb), .val (.int pc), .val (.int pd), .val (.int pk), .val (.int (1 : Int32)), .val (.ref b22), .val (.int (Int32.ofNat n1)), .val (.ref rr)] [(.ref rr)]))
        refine OwnGo.fwd (fun tq' kq' => XS.iloadN X29.here hx rfl (hb hby at_184) rfl kq') ?_
        show OwnGo _ _ _ _ (T29.setTop (mkF m 185 #[.val (.int pa), .val (.int pb), .val (.int pc), .val (.int pd), .val (.int pk), .val (.int (1 : Int32)), .val (.ref b22), .val (.int (Int32.ofNat n1)), .val (.ref rr)] [(.int pa), (.ref rr)]))
        obtain ⟨_, _, ⟨T32, L32, k32, n32⟩, -, X32, ⟨Lc32, hQ32, l32, y32, z32⟩, st32⟩ := Jvm.LawKit.callS X29 hx (y := (⟨"com/example/rolestack/rolestack/NumbersByIdIdsPinLaw", "has", "([II)Z"⟩ : MethodName)) hown (mvT hZ (hw _ (List.mem_of_getElem? (i := 39) rfl))) (mvT hZ (hw _ (List.mem_of_getElem? (i := 40) rfl))) (mvT hZ (hw _ (List.mem_of_getElem? (i := 41) rfl))) (mvT hZ (hw _ (List.mem_of_getElem? (i := 42) rfl))) (by decide) (backOf (W := 0) (rm7 l Z a0 hw [] rr n1 uu pa h29 n0 Zs V_rr (by omega) (by
          obtain ⟨q, hq, e⟩ := ((HP1.2.2 pa nz_pa).trans (or_congr (iff_of_false (own_pr0 nz_pa) id) Iff.rfl)).mpr (by simp)
          refine ⟨own_cnt f1 q, ?_, ?_⟩
          · rw [← HP1.1.1]; exact own_cnt_lt f1 hq (by rw [e]; exact nz_pa)
          · rw [huu q hq (by rw [e]; exact nz_pa)]; exact e)) hZ (hw _ (List.mem_of_getElem? (i := 42) rfl)) (hw _ (List.mem_of_getElem? (i := 41) rfl)) (by decide) (by decide)) (g := (mkF m 185 #[.val (.int pa), .val (.int pb), .val (.int pc), .val (.int pd), .val (.int pk), .val (.int (1 : Int32)), .val (.ref b22), .val (.int (Int32.ofNat n1)), .val (.ref rr)] [(.int pa), (.ref rr)])) rfl (by rw [hml]; rfl) (argsL := [(.ref rr), (.int pa)]) (rest := []) (lenOf pd_5 rfl) rfl (by show 2 * 0 + _ ≤ _; exact Nat.le_of_eq rfl) (hb hby at_185) (fun _ _ => ⟨rfl, eh29.symm, (by decide : 4 + 0 ≤ _), (by decide : 40 + 0 ≤ _)⟩)
        dsimp only [Pt.U, Pt.locs, Pt.cells, Pt.slots] at X32 l32 y32 z32 st32 hQ32
        subst l32 y32 z32
        obtain ⟨rfl, N32q, e32⟩ := hQ32
        have N := Fr.app N N32q
        refine OwnGo.fwd st32 ?_
        show OwnGo _ _ _ _ (T32.setTop (mkF m 188 #[.val (.int pa), .val (.int pb), .val (.int pc), .val (.int pd), .val (.int pk), .val (.int (1 : Int32)), .val (.ref b22), .val (.int (Int32.ofNat n1)), .val (.ref rr)] [(.int (1 : Int32))]))
        have hc188_33 : ¬ ((1 : Int) = (0 : Int)) := by decide
        refine OwnGo.fwd (fun tq' kq' => XS.ifYes X32.here hx rfl (pc0 := 188) (pc' := 193) rfl (hb hby at_188) rfl ((if0 _ _).trans (own_bneq (by decide) (by decide) hc188_33).2) (by decide) (by decide) kq') ?_
        show OwnGo _ _ _ _ (T32.setTop (mkF m 193 #[.val (.int pa), .val (.int pb), .val (.int pc), .val (.int pd), .val (.int pk), .val (.int (1 : Int32)), .val (.ref b22), .val (.int (Int32.ofNat n1)), .val (.ref rr)] []))
        refine OwnGo.fwd (fun tq' kq' => XS.iload X32.here hx rfl (hb hby at_193) rfl kq') ?_
        show OwnGo _ _ _ _ (T32.setTop (mkF m 195 #[.val (.int pa), .val (.int pb), .val (.int pc), .val (.int pd), .val (.int pk), .val (.int (1 : Int32)), .val (.ref b22), .val (.int (Int32.ofNat n1)), .val (.ref rr)] [(.int (1 : Int32))]))
        refine OwnGo.fwd (fun tq' kq' => XS.iconst X32.here hx rfl (hb hby at_195) kq') ?_
        show OwnGo _ _ _ _ (T32.setTop (mkF m 196 #[.val (.int pa), .val (.int pb), .val (.int pc), .val (.int pd), .val (.int pk), .val (.int (1 : Int32)), .val (.ref b22), .val (.int (Int32.ofNat n1)), .val (.ref rr)] [(.int (2 : Int32)), (.int (1 : Int32))]))
        have hc196_34 : (1 : Int) < (2 : Int) := by decide
        refine OwnGo.fwd (fun tq' kq' => XS.icmpYes X32.here hx rfl (pc0 := 196) (pc' := 210) rfl (hb hby at_196) rfl (own_blt (by decide) (by decide) hc196_34).1 (by decide) (by decide) kq') ?_
        show OwnGo _ _ _ _ (T32.setTop (mkF m 210 #[.val (.int pa), .val (.int pb), .val (.int pc), .val (.int pd), .val (.int pk), .val (.int (1 : Int32)), .val (.ref b22), .val (.int (Int32.ofNat n1)), .val (.ref rr)] []))
        refine OwnGo.fwd (fun tq' kq' => XS.iload X32.here hx rfl (hb hby at_210) rfl kq') ?_
        show OwnGo _ _ _ _ (T32.setTop (mkF m 212 #[.val (.int pa), .val (.int pb), .val (.int pc), .val (.int pd), .val (.int pk), .val (.int (1 : Int32)), .val (.ref b22), .val (.int (Int32.ofNat n1)), .val (.ref rr)] [(.int (1 : Int32))]))
        refine OwnGo.fwd (fun tq' kq' => XS.iconst X32.here hx rfl (hb hby at_212) kq') ?_
        show OwnGo _ _ _ _ (T32.setTop (mkF m 213 #[.val (.int pa), .val (.int pb), .val (.int pc), .val (.int pd), .val (.int pk), .val (.int (1 : Int32)), .val (.ref b22), .val (.int (Int32.ofNat n1)), .val (.ref rr)] [(.int (3 : Int32)), (.int (1 : Int32))]))
        have hc213_35 : (1 : Int) < (3 : Int) := by decide
        refine OwnGo.fwd (fun tq' kq' => XS.icmpYes X32.here hx rfl (pc0 := 213) (pc' := 227) rfl (hb hby at_213) rfl (own_blt (by decide) (by decide) hc213_35).1 (by decide) (by decide) kq') ?_
        show OwnGo _ _ _ _ (T32.setTop (mkF m 227 #[.val (.int pa), .val (.int pb), .val (.int pc), .val (.int pd), .val (.int pk), .val (.int (1 : Int32)), .val (.ref b22), .val (.int (Int32.ofNat n1)), .val (.ref rr)] []))
        refine OwnGo.fwd (fun tq' kq' => XS.iload X32.here hx rfl (hb hby at_227) rfl kq') ?_
        show OwnGo _ _ _ _ (T32.setTop (mkF m 229 #[.val (.int pa), .val (.int pb), .val (.int pc), .val (.int pd), .val (.int pk), .val (.int (1 : Int32)), .val (.ref b22), .val (.int (Int32.ofNat n1)), .val (.ref rr)] [(.int (1 : Int32))]))
        refine OwnGo.fwd (fun tq' kq' => XS.iconst X32.here hx rfl (hb hby at_229) kq') ?_
        show OwnGo _ _ _ _ (T32.setTop (mkF m 230 #[.val (.int pa), .val (.int pb), .val (.int pc), .val (.int pd), .val (.int pk), .val (.int (1 : Int32)), .val (.ref b22), .val (.int (Int32.ofNat n1)), .val (.ref rr)] [(.int (4 : Int32)), (.int (1 : Int32))]))
        have hc230_36 : (1 : Int) < (4 : Int) := by decide
        refine OwnGo.fwd (fun tq' kq' => XS.icmpYes X32.here hx rfl (pc0 := 230) (pc' := 244) rfl (hb hby at_230) rfl (own_blt (by decide) (by decide) hc230_36).1 (by decide) (by decide) kq') ?_
        show OwnGo _ _ _ _ (T32.setTop (mkF m 244 #[.val (.int pa), .val (.int pb), .val (.int pc), .val (.int pd), .val (.int pk), .val (.int (1 : Int32)), .val (.ref b22), .val (.int (Int32.ofNat n1)), .val (.ref rr)] []))
        refine OwnGo.fwd (fun tq' kq' => XS.iconst X32.here hx rfl (hb hby at_244) kq') ?_
        show OwnGo _ _ _ _ (T32.setTop (mkF m 245 #[.val (.int pa), .val (.int pb), .val (.int pc), .val (.int pd), .val (.int pk), .val (.int (1 : Int32)), .val (.ref b22), .val (.int (Int32.ofNat n1)), .val (.ref rr)] [(.int (1 : Int32))]))
        exact own_retZ X32 hlk hx Bd.returns (hb hby at_245) (by decide) (by decide) e32 ⟨rfl, N⟩
      refine OwnGo.fwd (fun tq' kq' => XS.iinc X25.here hx rfl (hb hby at_78) rfl (l' := #[.val (.int pa), .val (.int pb), .val (.int pc), .val (.int pd), .val (.int pk), .val (.int (1 : Int32)), .val (.ref b22), .val (.int (1 : Int32)), .unset]) rfl kq') ?_
      show OwnGo _ _ _ _ (T25.setTop (mkF m 81 #[.val (.int pa), .val (.int pb), .val (.int pc), .val (.int pd), .val (.int pk), .val (.int (1 : Int32)), .val (.ref b22), .val (.int (1 : Int32)), .unset] []))
      have pq := (iff_of_false (own_pr0 nz_pa) id)
      have hs1 : n1 = 0 + 1 := by
        rcases HP1.2.1 with q | q
        · exact absurd (pq.mp q.1) (by simp [*])
        · exact q.2
      exact J81 _ (by rw [hs1]; first | exact own_ofNatS _ | rfl)
  · show OwnGo _ _ _ _ (s₁.setTop (mkF m 7 #[.val (.int pa), .val (.int pb), .val (.int pc), .val (.int pd), .val (.int pk), .unset, .unset, .unset, .unset] [(.int (2 : Int32))]))
    refine OwnGo.fwd (fun tq' kq' => XS.istore X0.here hx rfl (hb hby at_7) rfl (l' := #[.val (.int pa), .val (.int pb), .val (.int pc), .val (.int pd), .val (.int pk), .val (.int (2 : Int32)), .unset, .unset, .unset]) rfl kq') ?_
    show OwnGo _ _ _ _ (s₁.setTop (mkF m 9 #[.val (.int pa), .val (.int pb), .val (.int pc), .val (.int pd), .val (.int pk), .val (.int (2 : Int32)), .unset, .unset, .unset] []))
    refine OwnGo.fwd (fun tq' kq' => XS.iload X0.here hx rfl (hb hby at_9) rfl kq') ?_
    show OwnGo _ _ _ _ (s₁.setTop (mkF m 11 #[.val (.int pa), .val (.int pb), .val (.int pc), .val (.int pd), .val (.int pk), .val (.int (2 : Int32)), .unset, .unset, .unset] [(.int (2 : Int32))]))
    refine OwnGo.fwd (fun tq' kq' => XS.iconst X0.here hx rfl (hb hby at_11) kq') ?_
    show OwnGo _ _ _ _ (s₁.setTop (mkF m 12 #[.val (.int pa), .val (.int pb), .val (.int pc), .val (.int pd), .val (.int pk), .val (.int (2 : Int32)), .unset, .unset, .unset] [(.int (1 : Int32)), (.int (2 : Int32))]))
    have hc12_37 : ¬ ((2 : Int) < (1 : Int)) := by decide
    refine OwnGo.fwd (fun tq' kq' => XS.icmpNo X0.here hx rfl (hb hby at_12) rfl (own_bnlt (by decide) (by decide) hc12_37).1 kq') ?_
    show OwnGo _ _ _ _ (s₁.setTop (mkF m 15 #[.val (.int pa), .val (.int pb), .val (.int pc), .val (.int pd), .val (.int pk), .val (.int (2 : Int32)), .unset, .unset, .unset] []))
    refine OwnGo.fwd (fun tq' kq' => XS.iloadN X0.here hx rfl (hb hby at_15) rfl kq') ?_
    show OwnGo _ _ _ _ (s₁.setTop (mkF m 16 #[.val (.int pa), .val (.int pb), .val (.int pc), .val (.int pd), .val (.int pk), .val (.int (2 : Int32)), .unset, .unset, .unset] [(.int pa)]))
    by_cases hc16_38 : pa.toInt = 0
    · refine OwnGo.fwd (fun tq' kq' => XS.ifYes X0.here hx rfl (pc0 := 16) (pc' := 49) rfl (hb hby at_16) rfl ((if0 _ _).trans (own_beq rfl (by decide) hc16_38).1) (by decide) (by decide) kq') ?_
      show OwnGo _ _ _ _ (s₁.setTop (mkF m 49 #[.val (.int pa), .val (.int pb), .val (.int pc), .val (.int pd), .val (.int pk), .val (.int (2 : Int32)), .unset, .unset, .unset] []))
      refine OwnGo.fwd (fun tq' kq' => XS.iconst X0.here hx rfl (hb hby at_49) kq') ?_
      show OwnGo _ _ _ _ (s₁.setTop (mkF m 50 #[.val (.int pa), .val (.int pb), .val (.int pc), .val (.int pd), .val (.int pk), .val (.int (2 : Int32)), .unset, .unset, .unset] [(.int (1 : Int32))]))
      exact own_retZ X0 hlk hx Bd.returns (hb hby at_50) (by decide) (by decide) e0 ⟨rfl, N⟩
    · refine OwnGo.fwd (fun tq' kq' => XS.ifNo X0.here hx rfl (hb hby at_16) rfl ((if0 _ _).trans (own_bneq rfl (by decide) hc16_38).1) kq') ?_
      show OwnGo _ _ _ _ (s₁.setTop (mkF m 19 #[.val (.int pa), .val (.int pb), .val (.int pc), .val (.int pd), .val (.int pk), .val (.int (2 : Int32)), .unset, .unset, .unset] []))
      refine OwnGo.fwd (fun tq' kq' => XS.iload X0.here hx rfl (hb hby at_19) rfl kq') ?_
      show OwnGo _ _ _ _ (s₁.setTop (mkF m 21 #[.val (.int pa), .val (.int pb), .val (.int pc), .val (.int pd), .val (.int pk), .val (.int (2 : Int32)), .unset, .unset, .unset] [(.int (2 : Int32))]))
      refine OwnGo.fwd (fun tq' kq' => XS.iconst X0.here hx rfl (hb hby at_21) kq') ?_
      show OwnGo _ _ _ _ (s₁.setTop (mkF m 22 #[.val (.int pa), .val (.int pb), .val (.int pc), .val (.int pd), .val (.int pk), .val (.int (2 : Int32)), .unset, .unset, .unset] [(.int (2 : Int32)), (.int (2 : Int32))]))
      have hc22_39 : ¬ ((2 : Int) < (2 : Int)) := by decide
      refine OwnGo.fwd (fun tq' kq' => XS.icmpNo X0.here hx rfl (hb hby at_22) rfl (own_bnlt (by decide) (by decide) hc22_39).1 kq') ?_
      show OwnGo _ _ _ _ (s₁.setTop (mkF m 25 #[.val (.int pa), .val (.int pb), .val (.int pc), .val (.int pd), .val (.int pk), .val (.int (2 : Int32)), .unset, .unset, .unset] []))
      refine OwnGo.fwd (fun tq' kq' => XS.iloadN X0.here hx rfl (hb hby at_25) rfl kq') ?_
      show OwnGo _ _ _ _ (s₁.setTop (mkF m 26 #[.val (.int pa), .val (.int pb), .val (.int pc), .val (.int pd), .val (.int pk), .val (.int (2 : Int32)), .unset, .unset, .unset] [(.int pb)]))
      by_cases hc26_40 : pb.toInt = 0
      · refine OwnGo.fwd (fun tq' kq' => XS.ifYes X0.here hx rfl (pc0 := 26) (pc' := 49) rfl (hb hby at_26) rfl ((if0 _ _).trans (own_beq rfl (by decide) hc26_40).1) (by decide) (by decide) kq') ?_
        show OwnGo _ _ _ _ (s₁.setTop (mkF m 49 #[.val (.int pa), .val (.int pb), .val (.int pc), .val (.int pd), .val (.int pk), .val (.int (2 : Int32)), .unset, .unset, .unset] []))
        refine OwnGo.fwd (fun tq' kq' => XS.iconst X0.here hx rfl (hb hby at_49) kq') ?_
        show OwnGo _ _ _ _ (s₁.setTop (mkF m 50 #[.val (.int pa), .val (.int pb), .val (.int pc), .val (.int pd), .val (.int pk), .val (.int (2 : Int32)), .unset, .unset, .unset] [(.int (1 : Int32))]))
        exact own_retZ X0 hlk hx Bd.returns (hb hby at_50) (by decide) (by decide) e0 ⟨rfl, N⟩
      · refine OwnGo.fwd (fun tq' kq' => XS.ifNo X0.here hx rfl (hb hby at_26) rfl ((if0 _ _).trans (own_bneq rfl (by decide) hc26_40).1) kq') ?_
        show OwnGo _ _ _ _ (s₁.setTop (mkF m 29 #[.val (.int pa), .val (.int pb), .val (.int pc), .val (.int pd), .val (.int pk), .val (.int (2 : Int32)), .unset, .unset, .unset] []))
        refine OwnGo.fwd (fun tq' kq' => XS.iload X0.here hx rfl (hb hby at_29) rfl kq') ?_
        show OwnGo _ _ _ _ (s₁.setTop (mkF m 31 #[.val (.int pa), .val (.int pb), .val (.int pc), .val (.int pd), .val (.int pk), .val (.int (2 : Int32)), .unset, .unset, .unset] [(.int (2 : Int32))]))
        refine OwnGo.fwd (fun tq' kq' => XS.iconst X0.here hx rfl (hb hby at_31) kq') ?_
        show OwnGo _ _ _ _ (s₁.setTop (mkF m 32 #[.val (.int pa), .val (.int pb), .val (.int pc), .val (.int pd), .val (.int pk), .val (.int (2 : Int32)), .unset, .unset, .unset] [(.int (3 : Int32)), (.int (2 : Int32))]))
        have hc32_41 : (2 : Int) < (3 : Int) := by decide
        refine OwnGo.fwd (fun tq' kq' => XS.icmpYes X0.here hx rfl (pc0 := 32) (pc' := 39) rfl (hb hby at_32) rfl (own_blt (by decide) (by decide) hc32_41).1 (by decide) (by decide) kq') ?_
        show OwnGo _ _ _ _ (s₁.setTop (mkF m 39 #[.val (.int pa), .val (.int pb), .val (.int pc), .val (.int pd), .val (.int pk), .val (.int (2 : Int32)), .unset, .unset, .unset] []))
        refine OwnGo.fwd (fun tq' kq' => XS.iload X0.here hx rfl (hb hby at_39) rfl kq') ?_
        show OwnGo _ _ _ _ (s₁.setTop (mkF m 41 #[.val (.int pa), .val (.int pb), .val (.int pc), .val (.int pd), .val (.int pk), .val (.int (2 : Int32)), .unset, .unset, .unset] [(.int (2 : Int32))]))
        refine OwnGo.fwd (fun tq' kq' => XS.iconst X0.here hx rfl (hb hby at_41) kq') ?_
        show OwnGo _ _ _ _ (s₁.setTop (mkF m 42 #[.val (.int pa), .val (.int pb), .val (.int pc), .val (.int pd), .val (.int pk), .val (.int (2 : Int32)), .unset, .unset, .unset] [(.int (4 : Int32)), (.int (2 : Int32))]))
        have hc42_42 : (2 : Int) < (4 : Int) := by decide
        refine OwnGo.fwd (fun tq' kq' => XS.icmpYes X0.here hx rfl (pc0 := 42) (pc' := 51) rfl (hb hby at_42) rfl (own_blt (by decide) (by decide) hc42_42).1 (by decide) (by decide) kq') ?_
        show OwnGo _ _ _ _ (s₁.setTop (mkF m 51 #[.val (.int pa), .val (.int pb), .val (.int pc), .val (.int pd), .val (.int pk), .val (.int (2 : Int32)), .unset, .unset, .unset] []))
        have nz_pa := own_nz hc16_38
        have nz_pb := own_nz hc26_40
        obtain ⟨T43, h43, X43, e43, E43, A43, D43, -, st43⟩ := newO X0 hx hZ hown (hw _ (List.mem_of_getElem? (i := 1) rfl)) (hw _ (List.mem_of_getElem? (i := 2) rfl)) (hw _ (List.mem_of_getElem? (i := 3) rfl)) e0 (g := (mkF m 51 #[.val (.int pa), .val (.int pb), .val (.int pc), .val (.int pd), .val (.int pk), .val (.int (2 : Int32)), .unset, .unset, .unset] [])) rfl (hb hby at_51) (by decide) (by decide)
        obtain ⟨b43, g43⟩ : ∃ z, z = h0.size := ⟨_, rfl⟩
        rw [← g43] at A43 D43 st43
        have g_b43 : n0 ≤ b43 := Nat.le_trans Zs (Nat.le_of_eq g43.symm)
        have Zs := Nat.le_trans Zs E43.1
        have E_b43 := A43
        have F_ids_b43 : Fld Z h43 b43 "com/example/rolestack/rolestack/NumbersById" "ids" "[I" .null := D43 (Or.inr (hw _ (List.mem_of_getElem? (i := 12) rfl))) (ty := (.array .int)) (by decide)
        have F_numbers_b43 : Fld Z h43 b43 "com/example/rolestack/rolestack/NumbersById" "numbers" "[I" .null := D43 (Or.inr (hw _ (List.mem_of_getElem? (i := 14) rfl))) (ty := (.array .int)) (by decide)
        have F_shift_b43 : Fld Z h43 b43 "com/example/rolestack/rolestack/NumbersById" "shift" "I" (.int (0 : Int32)) := D43 (Or.inr (hw _ (List.mem_of_getElem? (i := 21) rfl))) (ty := .int) (by decide)
        have F_size_b43 : Fld Z h43 b43 "com/example/rolestack/rolestack/NumbersById" "size" "I" (.int (0 : Int32)) := D43 (Or.inl (hw _ (List.mem_of_getElem? (i := 28) rfl))) (ty := .int) (by decide)
        refine OwnGo.fwd st43 ?_
        show OwnGo _ _ _ _ (T43.setTop (mkF m 54 #[.val (.int pa), .val (.int pb), .val (.int pc), .val (.int pd), .val (.int pk), .val (.int (2 : Int32)), .unset, .unset, .unset] [(.ref b43)]))
        refine OwnGo.fwd (fun tq' kq' => XS.dup X43.here hx rfl (hb hby at_54) rfl rfl kq') ?_
        show OwnGo _ _ _ _ (T43.setTop (mkF m 55 #[.val (.int pa), .val (.int pb), .val (.int pc), .val (.int pd), .val (.int pk), .val (.int (2 : Int32)), .unset, .unset, .unset] [(.ref b43), (.ref b43)]))
        refine OwnGo.fwd (fun tq' kq' => XS.bipush X43.here hx rfl (hb hby at_55) kq') ?_
        show OwnGo _ _ _ _ (T43.setTop (mkF m 57 #[.val (.int pa), .val (.int pb), .val (.int pc), .val (.int pd), .val (.int pk), .val (.int (2 : Int32)), .unset, .unset, .unset] [(.int (16 : Int32)), (.ref b43), (.ref b43)]))
        obtain ⟨_, _, ⟨T44, L44, k44, n44⟩, -, X44, ⟨Lc44, hQ44, l44, y44, z44⟩, st44⟩ := X43.specialBack hx (y := (⟨"com/example/rolestack/rolestack/NumbersById", "<init>", "(I)V"⟩ : MethodName)) rfl hown (mvT hZ (hw _ (List.mem_of_getElem? (i := 4) rfl))) (mvT hZ (hw _ (List.mem_of_getElem? (i := 5) rfl))) (mvT hZ (hw _ (List.mem_of_getElem? (i := 6) rfl))) (by decide) (backOf (W := 1) (rm1 l Z a0 hw [] b43 h43 n0 Zs E_b43 F_ids_b43 F_numbers_b43 F_shift_b43 F_size_b43 g_b43) hZ (hw _ (List.mem_of_getElem? (i := 6) rfl)) (hw _ (List.mem_of_getElem? (i := 3) rfl)) (by decide) (by decide)) (g := (mkF m 57 #[.val (.int pa), .val (.int pb), .val (.int pc), .val (.int pd), .val (.int pk), .val (.int (2 : Int32)), .unset, .unset, .unset] [(.int (16 : Int32)), (.ref b43), (.ref b43)])) rfl (by rw [hml]; rfl) (Steps.refl _) (a := b43) (argsL := [(.int (16 : Int32))]) (rest := [(.ref b43)]) (lenOf pd_0 rfl) rfl (by show 2 * 0 + _ ≤ _; exact Nat.le_of_eq rfl) (hb hby at_57) (fun _ _ => ⟨rfl, e43, (by decide : 1 + 2 ≤ _), (by decide : 4 + 32 ≤ _)⟩)
        dsimp only [Pt.U, Pt.locs, Pt.cells, Pt.slots] at X44 l44 y44 z44 st44 hQ44
        subst l44 y44 z44
        obtain ⟨h44, eh44⟩ : ∃ z, z = T44.heap := ⟨_, rfl⟩
        rw [← eh44] at hQ44
        obtain ⟨rfl, N44q, K44, ia, na, sz_ia, sz_na, E_b43, F_ids_b43, F_numbers_b43, F_shift_b43, F_size_b43, V_ia, V_na, ne_b43_ia, ne_b43_na, ne_ia_na, g_b43, g_ia, g_na⟩ := hQ44
        have N := Fr.app N N44q
        have Zs := Nat.le_trans Zs K44.1
        have I0 := own_Inv0
        refine OwnGo.thru st44 ?_
        show OwnGo _ _ _ _ (T44.setTop (mkF m 60 #[.val (.int pa), .val (.int pb), .val (.int pc), .val (.int pd), .val (.int pk), .val (.int (2 : Int32)), .unset, .unset, .unset] [(.ref b43)]))
        refine OwnGo.fwd (fun tq' kq' => XS.astore X44.here hx rfl (hb hby at_60) rfl rfl (l' := #[.val (.int pa), .val (.int pb), .val (.int pc), .val (.int pd), .val (.int pk), .val (.int (2 : Int32)), .val (.ref b43), .unset, .unset]) rfl kq') ?_
        show OwnGo _ _ _ _ (T44.setTop (mkF m 62 #[.val (.int pa), .val (.int pb), .val (.int pc), .val (.int pd), .val (.int pk), .val (.int (2 : Int32)), .val (.ref b43), .unset, .unset] []))
        refine OwnGo.fwd (fun tq' kq' => XS.iconst X44.here hx rfl (hb hby at_62) kq') ?_
        show OwnGo _ _ _ _ (T44.setTop (mkF m 63 #[.val (.int pa), .val (.int pb), .val (.int pc), .val (.int pd), .val (.int pk), .val (.int (2 : Int32)), .val (.ref b43), .unset, .unset] [(.int (0 : Int32))]))
        refine OwnGo.fwd (fun tq' kq' => XS.istore X44.here hx rfl (hb hby at_63) rfl (l' := #[.val (.int pa), .val (.int pb), .val (.int pc), .val (.int pd), .val (.int pk), .val (.int (2 : Int32)), .val (.ref b43), .val (.int (0 : Int32)), .unset]) rfl kq') ?_
        show OwnGo _ _ _ _ (T44.setTop (mkF m 65 #[.val (.int pa), .val (.int pb), .val (.int pc), .val (.int pd), .val (.int pk), .val (.int (2 : Int32)), .val (.ref b43), .val (.int (0 : Int32)), .unset] []))
        refine OwnGo.fwd (fun tq' kq' => XS.iload X44.here hx rfl (hb hby at_65) rfl kq') ?_
        show OwnGo _ _ _ _ (T44.setTop (mkF m 67 #[.val (.int pa), .val (.int pb), .val (.int pc), .val (.int pd), .val (.int pk), .val (.int (2 : Int32)), .val (.ref b43), .val (.int (0 : Int32)), .unset] [(.int (2 : Int32))]))
        refine OwnGo.fwd (fun tq' kq' => XS.iconst X44.here hx rfl (hb hby at_67) kq') ?_
        show OwnGo _ _ _ _ (T44.setTop (mkF m 68 #[.val (.int pa), .val (.int pb), .val (.int pc), .val (.int pd), .val (.int pk), .val (.int (2 : Int32)), .val (.ref b43), .val (.int (0 : Int32)), .unset] [(.int (1 : Int32)), (.int (2 : Int32))]))
        have hc68_45 : ¬ ((2 : Int) < (1 : Int)) := by decide
        refine OwnGo.fwd (fun tq' kq' => XS.icmpNo X44.here hx rfl (hb hby at_68) rfl (own_bnlt (by decide) (by decide) hc68_45).1 kq') ?_
        show OwnGo _ _ _ _ (T44.setTop (mkF m 71 #[.val (.int pa), .val (.int pb), .val (.int pc), .val (.int pd), .val (.int pk), .val (.int (2 : Int32)), .val (.ref b43), .val (.int (0 : Int32)), .unset] []))
        refine OwnGo.fwd (fun tq' kq' => XS.aload X44.here hx rfl (hb hby at_71) rfl rfl kq') ?_
        show OwnGo _ _ _ _ (T44.setTop (mkF m 73 #[.val (.int pa), .val (.int pb), .val (.int pc), .val (.int pd), .val (.int pk), .val (.int (2 : Int32)), .val (.ref b43), .val (.int (0 : Int32)), .unset] [(.ref b43)]))
        refine OwnGo.fwd (fun tq' kq' => XS.iloadN X44.here hx rfl (hb hby at_73) rfl kq') ?_
        show OwnGo _ _ _ _ (T44.setTop (mkF m 74 #[.val (.int pa), .val (.int pb), .val (.int pc), .val (.int pd), .val (.int pk), .val (.int (2 : Int32)), .val (.ref b43), .val (.int (0 : Int32)), .unset] [(.int pa), (.ref b43)]))
        refine OwnGo.fwd (fun tq' kq' => XS.iconst X44.here hx rfl (hb hby at_74) kq') ?_
        show OwnGo _ _ _ _ (T44.setTop (mkF m 75 #[.val (.int pa), .val (.int pb), .val (.int pc), .val (.int pd), .val (.int pk), .val (.int (2 : Int32)), .val (.ref b43), .val (.int (0 : Int32)), .unset] [(.int (1 : Int32)), (.int pa), (.ref b43)]))
        obtain ⟨cq46, kq46, q46a, q46b, q46c⟩ := isOf hZ eh44.symm E_b43
        obtain ⟨_, _, ⟨T46, L46, k46, n46⟩, -, X46, ⟨Lc46, hQ46, l46, y46, z46⟩, st46⟩ := X44.virtualBack hx (y := (⟨"com/example/rolestack/rolestack/NumbersById", "put", "(II)V"⟩ : MethodName)) (z := (⟨"com/example/rolestack/rolestack/NumbersById", "put", "(II)V"⟩ : MethodName)) hown (mvT hZ (hw _ (List.mem_of_getElem? (i := 29) rfl))) (mvT hZ (hw _ (List.mem_of_getElem? (i := 30) rfl))) (notFace_of_selects (args := #[]) (mvT hZ (hw _ (List.mem_of_getElem? (i := 32) rfl)))) (mvT hZ (hw _ (List.mem_of_getElem? (i := 32) rfl))) (mvT hZ (hw _ (List.mem_of_getElem? (i := 31) rfl))) (by decide) (backOf (W := 0) (rm5 l Z a0 hw [] b43 ia na 0 (fun _ => 0) (fun _ => 0) pa (1 : Int32) h44 n0 Zs ⟨E_b43, F_ids_b43, F_numbers_b43, F_shift_b43, F_size_b43, V_ia, V_na, ne_b43_ia, ne_b43_na, ne_ia_na, g_b43, g_ia, g_na⟩ I0 (by decide) nz_pa) hZ (hw _ (List.mem_of_getElem? (i := 33) rfl)) (hw _ (List.mem_of_getElem? (i := 3) rfl)) (by decide) (by decide)) q46a q46c (g := (mkF m 75 #[.val (.int pa), .val (.int pb), .val (.int pc), .val (.int pd), .val (.int pk), .val (.int (2 : Int32)), .val (.ref b43), .val (.int (0 : Int32)), .unset] [(.int (1 : Int32)), (.int pa), (.ref b43)])) rfl (by rw [hml]; rfl) (Steps.refl _) (argsL := [(.int pa), (.int (1 : Int32))]) (rest := []) (lenOf pd_4 rfl) rfl (by show 2 * 0 + _ ≤ _; exact Nat.le_of_eq rfl) (hb hby at_75) (fun _ _ => ⟨rfl, eh44.symm, (by decide : 3 + 0 ≤ _), (by decide : 36 + 0 ≤ _)⟩)
        dsimp only [Pt.U, Pt.locs, Pt.cells, Pt.slots] at X46 l46 y46 z46 st46 hQ46
        subst l46 y46 z46
        obtain ⟨h46, eh46⟩ : ∃ z, z = T46.heap := ⟨_, rfl⟩
        rw [← eh46] at hQ46
        obtain ⟨rfl, N46q, K46, n1, f1, u1, ⟨E_b43, F_ids_b43, F_numbers_b43, F_shift_b43, F_size_b43, V_ia, V_na, ne_b43_ia, ne_b43_na, ne_ia_na, g_b43, g_ia, g_na⟩, HP1⟩ := hQ46
        have N := Fr.app N N46q
        have Zs := Nat.le_trans Zs K46.1
        have hle1 : n1 ≤ 0 + 1 := by rcases HP1.2.1 with q | q <;> omega
        refine OwnGo.thru st46 ?_
        show OwnGo _ _ _ _ (T46.setTop (mkF m 78 #[.val (.int pa), .val (.int pb), .val (.int pc), .val (.int pd), .val (.int pk), .val (.int (2 : Int32)), .val (.ref b43), .val (.int (0 : Int32)), .unset] []))
        have J81 : ∀ dd : Int32, dd = Int32.ofNat n1 → OwnGo p.tables e below (OwnEnd s (Q0 Z pa pb pc pd pk h0 n0) room_1.cells room_1.slots) (T46.setTop (mkF m 81 #[.val (.int pa), .val (.int pb), .val (.int pc), .val (.int pd), .val (.int pk), .val (.int (2 : Int32)), .val (.ref b43), .val (.int dd), .unset] [])) := by
          intro dd hdd
          subst hdd
          show OwnGo _ _ _ _ (T46.setTop (mkF m 81 #[.val (.int pa), .val (.int pb), .val (.int pc), .val (.int pd), .val (.int pk), .val (.int (2 : Int32)), .val (.ref b43), .val (.int (Int32.ofNat n1)), .unset] []))
          refine OwnGo.fwd (fun tq' kq' => XS.iload X46.here hx rfl (hb hby at_81) rfl kq') ?_
          show OwnGo _ _ _ _ (T46.setTop (mkF m 83 #[.val (.int pa), .val (.int pb), .val (.int pc), .val (.int pd), .val (.int pk), .val (.int (2 : Int32)), .val (.ref b43), .val (.int (Int32.ofNat n1)), .unset] [(.int (2 : Int32))]))
          refine OwnGo.fwd (fun tq' kq' => XS.iconst X46.here hx rfl (hb hby at_83) kq') ?_
          show OwnGo _ _ _ _ (T46.setTop (mkF m 84 #[.val (.int pa), .val (.int pb), .val (.int pc), .val (.int pd), .val (.int pk), .val (.int (2 : Int32)), .val (.ref b43), .val (.int (Int32.ofNat n1)), .unset] [(.int (2 : Int32)), (.int (2 : Int32))]))
          have hc84_47 : ¬ ((2 : Int) < (2 : Int)) := by decide
          refine OwnGo.fwd (fun tq' kq' => XS.icmpNo X46.here hx rfl (hb hby at_84) rfl (own_bnlt (by decide) (by decide) hc84_47).1 kq') ?_
          show OwnGo _ _ _ _ (T46.setTop (mkF m 87 #[.val (.int pa), .val (.int pb), .val (.int pc), .val (.int pd), .val (.int pk), .val (.int (2 : Int32)), .val (.ref b43), .val (.int (Int32.ofNat n1)), .unset] []))
          refine OwnGo.fwd (fun tq' kq' => XS.aload X46.here hx rfl (hb hby at_87) rfl rfl kq') ?_
          show OwnGo _ _ _ _ (T46.setTop (mkF m 89 #[.val (.int pa), .val (.int pb), .val (.int pc), .val (.int pd), .val (.int pk), .val (.int (2 : Int32)), .val (.ref b43), .val (.int (Int32.ofNat n1)), .unset] [(.ref b43)]))
          refine OwnGo.fwd (fun tq' kq' => XS.iloadN X46.here hx rfl (hb hby at_89) rfl kq') ?_
          show OwnGo _ _ _ _ (T46.setTop (mkF m 90 #[.val (.int pa), .val (.int pb), .val (.int pc), .val (.int pd), .val (.int pk), .val (.int (2 : Int32)), .val (.ref b43), .val (.int (Int32.ofNat n1)), .unset] [(.int pb), (.ref b43)]))
          refine OwnGo.fwd (fun tq' kq' => XS.iconst X46.here hx rfl (hb hby at_90) kq') ?_
          show OwnGo _ _ _ _ (T46.setTop (mkF m 91 #[.val (.int pa), .val (.int pb), .val (.int pc), .val (.int pd), .val (.int pk), .val (.int (2 : Int32)), .val (.ref b43), .val (.int (Int32.ofNat n1)), .unset] [(.int (2 : Int32)), (.int pb), (.ref b43)]))
          obtain ⟨cq48, kq48, q48a, q48b, q48c⟩ := isOf hZ eh46.symm E_b43
          obtain ⟨_, _, ⟨T48, L48, k48, n48⟩, -, X48, ⟨Lc48, hQ48, l48, y48, z48⟩, st48⟩ := X46.virtualBack hx (y := (⟨"com/example/rolestack/rolestack/NumbersById", "put", "(II)V"⟩ : MethodName)) (z := (⟨"com/example/rolestack/rolestack/NumbersById", "put", "(II)V"⟩ : MethodName)) hown (mvT hZ (hw _ (List.mem_of_getElem? (i := 29) rfl))) (mvT hZ (hw _ (List.mem_of_getElem? (i := 30) rfl))) (notFace_of_selects (args := #[]) (mvT hZ (hw _ (List.mem_of_getElem? (i := 32) rfl)))) (mvT hZ (hw _ (List.mem_of_getElem? (i := 32) rfl))) (mvT hZ (hw _ (List.mem_of_getElem? (i := 31) rfl))) (by decide) (backOf (W := 0) (rm5 l Z a0 hw [] b43 ia na n1 f1 u1 pb (2 : Int32) h46 n0 Zs ⟨E_b43, F_ids_b43, F_numbers_b43, F_shift_b43, F_size_b43, V_ia, V_na, ne_b43_ia, ne_b43_na, ne_ia_na, g_b43, g_ia, g_na⟩ HP1.1 (by omega) nz_pb) hZ (hw _ (List.mem_of_getElem? (i := 33) rfl)) (hw _ (List.mem_of_getElem? (i := 3) rfl)) (by decide) (by decide)) q48a q48c (g := (mkF m 91 #[.val (.int pa), .val (.int pb), .val (.int pc), .val (.int pd), .val (.int pk), .val (.int (2 : Int32)), .val (.ref b43), .val (.int (Int32.ofNat n1)), .unset] [(.int (2 : Int32)), (.int pb), (.ref b43)])) rfl (by rw [hml]; rfl) (Steps.refl _) (argsL := [(.int pb), (.int (2 : Int32))]) (rest := []) (lenOf pd_4 rfl) rfl (by show 2 * 0 + _ ≤ _; exact Nat.le_of_eq rfl) (hb hby at_91) (fun _ _ => ⟨rfl, eh46.symm, (by decide : 3 + 0 ≤ _), (by decide : 36 + 0 ≤ _)⟩)
          dsimp only [Pt.U, Pt.locs, Pt.cells, Pt.slots] at X48 l48 y48 z48 st48 hQ48
          subst l48 y48 z48
          obtain ⟨h48, eh48⟩ : ∃ z, z = T48.heap := ⟨_, rfl⟩
          rw [← eh48] at hQ48
          obtain ⟨rfl, N48q, K48, n2, f2, u2, ⟨E_b43, F_ids_b43, F_numbers_b43, F_shift_b43, F_size_b43, V_ia, V_na, ne_b43_ia, ne_b43_na, ne_ia_na, g_b43, g_ia, g_na⟩, HP2⟩ := hQ48
          have N := Fr.app N N48q
          have Zs := Nat.le_trans Zs K48.1
          have hle2 : n2 ≤ n1 + 1 := by rcases HP2.2.1 with q | q <;> omega
          refine OwnGo.thru st48 ?_
          show OwnGo _ _ _ _ (T48.setTop (mkF m 94 #[.val (.int pa), .val (.int pb), .val (.int pc), .val (.int pd), .val (.int pk), .val (.int (2 : Int32)), .val (.ref b43), .val (.int (Int32.ofNat n1)), .unset] []))
          have J102 : ∀ dd : Int32, dd = Int32.ofNat n2 → OwnGo p.tables e below (OwnEnd s (Q0 Z pa pb pc pd pk h0 n0) room_1.cells room_1.slots) (T48.setTop (mkF m 102 #[.val (.int pa), .val (.int pb), .val (.int pc), .val (.int pd), .val (.int pk), .val (.int (2 : Int32)), .val (.ref b43), .val (.int dd), .unset] [])) := by
            intro dd hdd
            subst hdd
            show OwnGo _ _ _ _ (T48.setTop (mkF m 102 #[.val (.int pa), .val (.int pb), .val (.int pc), .val (.int pd), .val (.int pk), .val (.int (2 : Int32)), .val (.ref b43), .val (.int (Int32.ofNat n2)), .unset] []))
            refine OwnGo.fwd (fun tq' kq' => XS.iload X48.here hx rfl (hb hby at_102) rfl kq') ?_
            show OwnGo _ _ _ _ (T48.setTop (mkF m 104 #[.val (.int pa), .val (.int pb), .val (.int pc), .val (.int pd), .val (.int pk), .val (.int (2 : Int32)), .val (.ref b43), .val (.int (Int32.ofNat n2)), .unset] [(.int (2 : Int32))]))
            refine OwnGo.fwd (fun tq' kq' => XS.iconst X48.here hx rfl (hb hby at_104) kq') ?_
            show OwnGo _ _ _ _ (T48.setTop (mkF m 105 #[.val (.int pa), .val (.int pb), .val (.int pc), .val (.int pd), .val (.int pk), .val (.int (2 : Int32)), .val (.ref b43), .val (.int (Int32.ofNat n2)), .unset] [(.int (3 : Int32)), (.int (2 : Int32))]))
            have hc105_49 : (2 : Int) < (3 : Int) := by decide
            refine OwnGo.fwd (fun tq' kq' => XS.icmpYes X48.here hx rfl (pc0 := 105) (pc' := 128) rfl (hb hby at_105) rfl (own_blt (by decide) (by decide) hc105_49).1 (by decide) (by decide) kq') ?_
            show OwnGo _ _ _ _ (T48.setTop (mkF m 128 #[.val (.int pa), .val (.int pb), .val (.int pc), .val (.int pd), .val (.int pk), .val (.int (2 : Int32)), .val (.ref b43), .val (.int (Int32.ofNat n2)), .unset] []))
            refine OwnGo.fwd (fun tq' kq' => XS.iload X48.here hx rfl (hb hby at_128) rfl kq') ?_
            show OwnGo _ _ _ _ (T48.setTop (mkF m 130 #[.val (.int pa), .val (.int pb), .val (.int pc), .val (.int pd), .val (.int pk), .val (.int (2 : Int32)), .val (.ref b43), .val (.int (Int32.ofNat n2)), .unset] [(.int (2 : Int32))]))
            refine OwnGo.fwd (fun tq' kq' => XS.iconst X48.here hx rfl (hb hby at_130) kq') ?_
            show OwnGo _ _ _ _ (T48.setTop (mkF m 131 #[.val (.int pa), .val (.int pb), .val (.int pc), .val (.int pd), .val (.int pk), .val (.int (2 : Int32)), .val (.ref b43), .val (.int (Int32.ofNat n2)), .unset] [(.int (4 : Int32)), (.int (2 : Int32))]))
            have hc131_50 : (2 : Int) < (4 : Int) := by decide
            refine OwnGo.fwd (fun tq' kq' => XS.icmpYes X48.here hx rfl (pc0 := 131) (pc' := 159) rfl (hb hby at_131) rfl (own_blt (by decide) (by decide) hc131_50).1 (by decide) (by decide) kq') ?_
            show OwnGo _ _ _ _ (T48.setTop (mkF m 159 #[.val (.int pa), .val (.int pb), .val (.int pc), .val (.int pd), .val (.int pk), .val (.int (2 : Int32)), .val (.ref b43), .val (.int (Int32.ofNat n2)), .unset] []))
            refine OwnGo.fwd (fun tq' kq' => XS.aload X48.here hx rfl (hb hby at_159) rfl rfl kq') ?_
            show OwnGo _ _ _ _ (T48.setTop (mkF m 161 #[.val (.int pa), .val (.int pb), .val (.int pc), .val (.int pd), .val (.int pk), .val (.int (2 : Int32)), .val (.ref b43), .val (.int (Int32.ofNat n2)), .unset] [(.ref b43)]))
            obtain ⟨cq51, kq51, q51a, q51b, q51c⟩ := isOf hZ eh48.symm E_b43
            obtain ⟨_, _, ⟨T51, L51, k51, n51⟩, -, X51, ⟨Lc51, hQ51, l51, y51, z51⟩, st51⟩ := X48.virtualBack hx (y := (⟨"com/example/rolestack/rolestack/NumbersById", "ids", "()[I"⟩ : MethodName)) (z := (⟨"com/example/rolestack/rolestack/NumbersById", "ids", "()[I"⟩ : MethodName)) hown (mvT hZ (hw _ (List.mem_of_getElem? (i := 22) rfl))) (mvT hZ (hw _ (List.mem_of_getElem? (i := 23) rfl))) (notFace_of_selects (args := #[]) (mvT hZ (hw _ (List.mem_of_getElem? (i := 25) rfl)))) (mvT hZ (hw _ (List.mem_of_getElem? (i := 25) rfl))) (mvT hZ (hw _ (List.mem_of_getElem? (i := 24) rfl))) (by decide) (backOf (W := 0) (rm4 l Z a0 hw [] b43 ia na n2 f2 u2 h48 n0 Zs ⟨E_b43, F_ids_b43, F_numbers_b43, F_shift_b43, F_size_b43, V_ia, V_na, ne_b43_ia, ne_b43_na, ne_ia_na, g_b43, g_ia, g_na⟩ HP2.1 (by omega)) hZ (hw _ (List.mem_of_getElem? (i := 26) rfl)) (hw _ (List.mem_of_getElem? (i := 3) rfl)) (by decide) (by decide)) q51a q51c (g := (mkF m 161 #[.val (.int pa), .val (.int pb), .val (.int pc), .val (.int pd), .val (.int pk), .val (.int (2 : Int32)), .val (.ref b43), .val (.int (Int32.ofNat n2)), .unset] [(.ref b43)])) rfl (by rw [hml]; rfl) (Steps.refl _) (argsL := []) (rest := []) (lenOf pd_3 rfl) rfl (by show 2 * 0 + _ ≤ _; exact Nat.le_of_eq rfl) (hb hby at_161) (fun _ _ => ⟨rfl, eh48.symm, (by decide : 3 + 1 ≤ _), (by decide : 36 + 4 ≤ _)⟩)
            dsimp only [Pt.U, Pt.locs, Pt.cells, Pt.slots] at X51 l51 y51 z51 st51 hQ51
            subst l51 y51 z51
            obtain ⟨rr, g51⟩ : ∃ z, z = h48.size := ⟨_, rfl⟩
            obtain ⟨h51, eh51⟩ : ∃ z, z = T51.heap := ⟨_, rfl⟩
            rw [← eh51] at hQ51
            obtain ⟨rfl, N51q, K51, uu, Vr51, huu⟩ := hQ51
            have N := Fr.app N N51q
            have Zs := Nat.le_trans Zs K51.1
            have E_b43 := E_b43.keep K51
            have F_ids_b43 := F_ids_b43.keep K51 nin0
            have F_numbers_b43 := F_numbers_b43.keep K51 nin0
            have F_shift_b43 := F_shift_b43.keep K51 nin0
            have F_size_b43 := F_size_b43.keep K51 nin0
            have V_ia := V_ia.keep K51 nin0
            have V_na := V_na.keep K51 nin0
            rw [← g51] at Vr51 st51
            have V_rr := Vr51
            refine OwnGo.thru st51 ?_
            show OwnGo _ _ _ _ (T51.setTop (mkF m 164 #[.val (.int pa), .val (.int pb), .val (.int pc), .val (.int pd), .val (.int pk), .val (.int (2 : Int32)), .val (.ref b43), .val (.int (Int32.ofNat n2)), .unset] [(.ref rr)]))
            refine OwnGo.fwd (fun tq' kq' => XS.astore X51.here hx rfl (hb hby at_164) rfl rfl (l' := #[.val (.int pa), .val (.int pb), .val (.int pc), .val (.int pd), .val (.int pk), .val (.int (2 : Int32)), .val (.ref b43), .val (.int (Int32.ofNat n2)), .val (.ref rr)]) rfl kq') ?_
            show OwnGo _ _ _ _ (T51.setTop (mkF m 166 #[.val (.int pa), .val (.int pb), .val (.int pc), .val (.int pd), .val (.int pk), .val (.int (2 : Int32)), .val (.ref b43), .val (.int (Int32.ofNat n2)), .val (.ref rr)] []))
            refine OwnGo.fwd (fun tq' kq' => XS.aload X51.here hx rfl (hb hby at_166) rfl rfl kq') ?_
            show OwnGo _ _ _ _ (T51.setTop (mkF m 168 #[.val (.int pa), .val (.int pb), .val (.int pc), .val (.int pd), .val (.int pk), .val (.int (2 : Int32)), .val (.ref b43), .val (.int (Int32.ofNat n2)), .val (.ref rr)] [(.ref rr)]))
            refine OwnGo.fwd (fun tq' kq' => own_len X51 hx hZ eh51.symm V_rr (g := (mkF m 168 #[.val (.int pa), .val (.int pb), .val (.int pc), .val (.int pd), .val (.int pk), .val (.int (2 : Int32)), .val (.ref b43), .val (.int (Int32.ofNat n2)), .val (.ref rr)] [(.ref rr)])) rfl rfl (hb hby at_168) tq' kq') ?_
            show OwnGo _ _ _ _ (T51.setTop (mkF m 169 #[.val (.int pa), .val (.int pb), .val (.int pc), .val (.int pd), .val (.int pk), .val (.int (2 : Int32)), .val (.ref b43), .val (.int (Int32.ofNat n2)), .val (.ref rr)] [(.int (Int32.ofNat n2))]))
            refine OwnGo.fwd (fun tq' kq' => XS.iload X51.here hx rfl (hb hby at_169) rfl kq') ?_
            show OwnGo _ _ _ _ (T51.setTop (mkF m 171 #[.val (.int pa), .val (.int pb), .val (.int pc), .val (.int pd), .val (.int pk), .val (.int (2 : Int32)), .val (.ref b43), .val (.int (Int32.ofNat n2)), .val (.ref rr)] [(.int (Int32.ofNat n2)), (.int (Int32.ofNat n2))]))
            have hc171_52 : (n2 : Int) = (n2 : Int) := rfl
            refine OwnGo.fwd (fun tq' kq' => XS.icmpYes X51.here hx rfl (pc0 := 171) (pc' := 176) rfl (hb hby at_171) rfl (own_beq (own_ofNat (by omega)) (own_ofNat (by omega)) hc171_52).1 (by decide) (by decide) kq') ?_
            show OwnGo _ _ _ _ (T51.setTop (mkF m 176 #[.val (.int pa), .val (.int pb), .val (.int pc), .val (.int pd), .val (.int pk), .val (.int (2 : Int32)), .val (.ref b43), .val (.int (Int32.ofNat n2)), .val (.ref rr)] []))
            refine OwnGo.fwd (fun tq' kq' => XS.iload X51.here hx rfl (hb hby at_176) rfl kq') ?_
            show OwnGo _ _ _ _ (T51.setTop (mkF m 178 #[.val (.int pa), .val (.int pb), .val (.int pc), .val (.int pd), .val (.int pk), .val (.int (2 : Int32)), .val (.ref b43), .val (.int (Int32.ofNat n2)), .val (.ref rr)] [(.int (2 : Int32))]))
            refine OwnGo.fwd (fun tq' kq' => XS.iconst X51.here hx rfl (hb hby at_178) kq') ?_
            show OwnGo _ _ _ _ (T51.setTop (mkF m 179 #[.val (.int pa), .val (.int pb), .val (.int pc), .val (.int pd), .val (.int pk), .val (.int (2 : Int32)), .val (.ref b43), .val (.int (Int32.ofNat n2)), .val (.ref rr)] [(.int (1 : Int32)), (.int (2 : Int32))]))
            have hc179_53 : ¬ ((2 : Int) < (1 : Int)) := by decide
            refine OwnGo.fwd (fun tq' kq' => XS.icmpNo X51.here hx rfl (hb hby at_179) rfl (own_bnlt (by decide) (by decide) hc179_53).1 kq') ?_
            show OwnGo _ _ _ _ (T51.setTop (mkF m 182 #[.val (.int pa), .val (.int pb), .val (.int pc), .val (.int pd), .val (.int pk), .val (.int (2 : Int32)), .val (.ref b43), .val (.int (Int32.ofNat n2)), .val (.ref rr)] []))
            refine OwnGo.fwd (fun tq' kq' => XS.aload X51.here hx rfl (hb hby at_182) rfl rfl kq') ?_
            show OwnGo _ _ _ _ (T51.setTop (mkF m 184 #[.val (.int pa), .val (.int pb), .val (.int pc), .val (.int pd), .val (.int pk), .val (.int (2 : Int32)), .val (.ref b43), .val (.int (Int32.ofNat n2)), .val (.ref rr)] [(.ref rr)]))
            refine OwnGo.fwd (fun tq' kq' => XS.iloadN X51.here hx rfl (hb hby at_184) rfl kq') ?_
            show OwnGo _ _ _ _ (T51.setTop (mkF m 185 #[.val (.int pa), .val (.int pb), .val (.int pc), .val (.int pd), .val (.int pk), .val (.int (2 : Int32)), .val (.ref b43), .val (.int (Int32.ofNat n2)), .val (.ref rr)] [(.int pa), (.ref rr)]))
            obtain ⟨_, _, ⟨T54, L54, k54, n54⟩, -, X54, ⟨Lc54, hQ54, l54, y54, z54⟩, st54⟩ := Jvm.LawKit.callS X51 hx (y := (⟨"com/example/rolestack/rolestack/NumbersByIdIdsPinLaw", "has", "([II)Z"⟩ : MethodName)) hown (mvT hZ (hw _ (List.mem_of_getElem? (i := 39) rfl))) (mvT hZ (hw _ (List.mem_of_getElem? (i := 40) rfl))) (mvT hZ (hw _ (List.mem_of_getElem? (i := 41) rfl))) (mvT hZ (hw _ (List.mem_of_getElem? (i := 42) rfl))) (by decide) (backOf (W := 0) (rm7 l Z a0 hw [] rr n2 uu pa h51 n0 Zs V_rr (by omega) (by
              obtain ⟨q, hq, e⟩ := ((HP2.2.2 pa nz_pa).trans (or_congr ((HP1.2.2 pa nz_pa).trans (or_congr (iff_of_false (own_pr0 nz_pa) id) Iff.rfl)) Iff.rfl)).mpr (by simp)
              refine ⟨own_cnt f2 q, ?_, ?_⟩
              · rw [← HP2.1.1]; exact own_cnt_lt f2 hq (by rw [e]; exact nz_pa)
              · rw [huu q hq (by rw [e]; exact nz_pa)]; exact e)) hZ (hw _ (List.mem_of_getElem? (i := 42) rfl)) (hw _ (List.mem_of_getElem? (i := 41) rfl)) (by decide) (by decide)) (g := (mkF m 185 #[.val (.int pa), .val (.int pb), .val (.int pc), .val (.int pd), .val (.int pk), .val (.int (2 : Int32)), .val (.ref b43), .val (.int (Int32.ofNat n2)), .val (.ref rr)] [(.int pa), (.ref rr)])) rfl (by rw [hml]; rfl) (argsL := [(.ref rr), (.int pa)]) (rest := []) (lenOf pd_5 rfl) rfl (by show 2 * 0 + _ ≤ _; exact Nat.le_of_eq rfl) (hb hby at_185) (fun _ _ => ⟨rfl, eh51.symm, (by decide : 4 + 0 ≤ _), (by decide : 40 + 0 ≤ _)⟩)
            dsimp only [Pt.U, Pt.locs, Pt.cells, Pt.slots] at X54 l54 y54 z54 st54 hQ54
            subst l54 y54 z54
            obtain ⟨rfl, N54q, e54⟩ := hQ54
            have N := Fr.app N N54q
            refine OwnGo.fwd st54 ?_
            show OwnGo _ _ _ _ (T54.setTop (mkF m 188 #[.val (.int pa), .val (.int pb), .val (.int pc), .val (.int pd), .val (.int pk), .val (.int (2 : Int32)), .val (.ref b43), .val (.int (Int32.ofNat n2)), .val (.ref rr)] [(.int (1 : Int32))]))
            have hc188_55 : ¬ ((1 : Int) = (0 : Int)) := by decide
            refine OwnGo.fwd (fun tq' kq' => XS.ifYes X54.here hx rfl (pc0 := 188) (pc' := 193) rfl (hb hby at_188) rfl ((if0 _ _).trans (own_bneq (by decide) (by decide) hc188_55).2) (by decide) (by decide) kq') ?_
            show OwnGo _ _ _ _ (T54.setTop (mkF m 193 #[.val (.int pa), .val (.int pb), .val (.int pc), .val (.int pd), .val (.int pk), .val (.int (2 : Int32)), .val (.ref b43), .val (.int (Int32.ofNat n2)), .val (.ref rr)] []))
            refine OwnGo.fwd (fun tq' kq' => XS.iload X54.here hx rfl (hb hby at_193) rfl kq') ?_
            show OwnGo _ _ _ _ (T54.setTop (mkF m 195 #[.val (.int pa), .val (.int pb), .val (.int pc), .val (.int pd), .val (.int pk), .val (.int (2 : Int32)), .val (.ref b43), .val (.int (Int32.ofNat n2)), .val (.ref rr)] [(.int (2 : Int32))]))
            refine OwnGo.fwd (fun tq' kq' => XS.iconst X54.here hx rfl (hb hby at_195) kq') ?_
            show OwnGo _ _ _ _ (T54.setTop (mkF m 196 #[.val (.int pa), .val (.int pb), .val (.int pc), .val (.int pd), .val (.int pk), .val (.int (2 : Int32)), .val (.ref b43), .val (.int (Int32.ofNat n2)), .val (.ref rr)] [(.int (2 : Int32)), (.int (2 : Int32))]))
            have hc196_56 : ¬ ((2 : Int) < (2 : Int)) := by decide
            refine OwnGo.fwd (fun tq' kq' => XS.icmpNo X54.here hx rfl (hb hby at_196) rfl (own_bnlt (by decide) (by decide) hc196_56).1 kq') ?_
            show OwnGo _ _ _ _ (T54.setTop (mkF m 199 #[.val (.int pa), .val (.int pb), .val (.int pc), .val (.int pd), .val (.int pk), .val (.int (2 : Int32)), .val (.ref b43), .val (.int (Int32.ofNat n2)), .val (.ref rr)] []))
            refine OwnGo.fwd (fun tq' kq' => XS.aload X54.here hx rfl (hb hby at_199) rfl rfl kq') ?_
            show OwnGo _ _ _ _ (T54.setTop (mkF m 201 #[.val (.int pa), .val (.int pb), .val (.int pc), .val (.int pd), .val (.int pk), .val (.int (2 : Int32)), .val (.ref b43), .val (.int (Int32.ofNat n2)), .val (.ref rr)] [(.ref rr)]))
            refine OwnGo.fwd (fun tq' kq' => XS.iloadN X54.here hx rfl (hb hby at_201) rfl kq') ?_
            show OwnGo _ _ _ _ (T54.setTop (mkF m 202 #[.val (.int pa), .val (.int pb), .val (.int pc), .val (.int pd), .val (.int pk), .val (.int (2 : Int32)), .val (.ref b43), .val (.int (Int32.ofNat n2)), .val (.ref rr)] [(.int pb), (.ref rr)]))
            obtain ⟨_, _, ⟨T57, L57, k57, n57⟩, -, X57, ⟨Lc57, hQ57, l57, y57, z57⟩, st57⟩ := Jvm.LawKit.callS X54 hx (y := (⟨"com/example/rolestack/rolestack/NumbersByIdIdsPinLaw", "has", "([II)Z"⟩ : MethodName)) hown (mvT hZ (hw _ (List.mem_of_getElem? (i := 39) rfl))) (mvT hZ (hw _ (List.mem_of_getElem? (i := 40) rfl))) (mvT hZ (hw _ (List.mem_of_getElem? (i := 41) rfl))) (mvT hZ (hw _ (List.mem_of_getElem? (i := 42) rfl))) (by decide) (backOf (W := 0) (rm7 l Z a0 hw [] rr n2 uu pb h51 n0 Zs V_rr (by omega) (by
              obtain ⟨q, hq, e⟩ := ((HP2.2.2 pb nz_pb).trans (or_congr ((HP1.2.2 pb nz_pb).trans (or_congr (iff_of_false (own_pr0 nz_pb) id) Iff.rfl)) Iff.rfl)).mpr (by simp)
              refine ⟨own_cnt f2 q, ?_, ?_⟩
              · rw [← HP2.1.1]; exact own_cnt_lt f2 hq (by rw [e]; exact nz_pb)
              · rw [huu q hq (by rw [e]; exact nz_pb)]; exact e)) hZ (hw _ (List.mem_of_getElem? (i := 42) rfl)) (hw _ (List.mem_of_getElem? (i := 41) rfl)) (by decide) (by decide)) (g := (mkF m 202 #[.val (.int pa), .val (.int pb), .val (.int pc), .val (.int pd), .val (.int pk), .val (.int (2 : Int32)), .val (.ref b43), .val (.int (Int32.ofNat n2)), .val (.ref rr)] [(.int pb), (.ref rr)])) rfl (by rw [hml]; rfl) (argsL := [(.ref rr), (.int pb)]) (rest := []) (lenOf pd_5 rfl) rfl (by show 2 * 0 + _ ≤ _; exact Nat.le_of_eq rfl) (hb hby at_202) (fun _ _ => ⟨rfl, e54, (by decide : 4 + 0 ≤ _), (by decide : 40 + 0 ≤ _)⟩)
            dsimp only [Pt.U, Pt.locs, Pt.cells, Pt.slots] at X57 l57 y57 z57 st57 hQ57
            subst l57 y57 z57
            obtain ⟨rfl, N57q, e57⟩ := hQ57
            have N := Fr.app N N57q
            refine OwnGo.fwd st57 ?_
            show OwnGo _ _ _ _ (T57.setTop (mkF m 205 #[.val (.int pa), .val (.int pb), .val (.int pc), .val (.int pd), .val (.int pk), .val (.int (2 : Int32)), .val (.ref b43), .val (.int (Int32.ofNat n2)), .val (.ref rr)] [(.int (1 : Int32))]))
            have hc205_58 : ¬ ((1 : Int) = (0 : Int)) := by decide
            refine OwnGo.fwd (fun tq' kq' => XS.ifYes X57.here hx rfl (pc0 := 205) (pc' := 210) rfl (hb hby at_205) rfl ((if0 _ _).trans (own_bneq (by decide) (by decide) hc205_58).2) (by decide) (by decide) kq') ?_
            show OwnGo _ _ _ _ (T57.setTop (mkF m 210 #[.val (.int pa), .val (.int pb), .val (.int pc), .val (.int pd), .val (.int pk), .val (.int (2 : Int32)), .val (.ref b43), .val (.int (Int32.ofNat n2)), .val (.ref rr)] []))
            refine OwnGo.fwd (fun tq' kq' => XS.iload X57.here hx rfl (hb hby at_210) rfl kq') ?_
            show OwnGo _ _ _ _ (T57.setTop (mkF m 212 #[.val (.int pa), .val (.int pb), .val (.int pc), .val (.int pd), .val (.int pk), .val (.int (2 : Int32)), .val (.ref b43), .val (.int (Int32.ofNat n2)), .val (.ref rr)] [(.int (2 : Int32))]))
            refine OwnGo.fwd (fun tq' kq' => XS.iconst X57.here hx rfl (hb hby at_212) kq') ?_
            show OwnGo _ _ _ _ (T57.setTop (mkF m 213 #[.val (.int pa), .val (.int pb), .val (.int pc), .val (.int pd), .val (.int pk), .val (.int (2 : Int32)), .val (.ref b43), .val (.int (Int32.ofNat n2)), .val (.ref rr)] [(.int (3 : Int32)), (.int (2 : Int32))]))
            have hc213_59 : (2 : Int) < (3 : Int) := by decide
            refine OwnGo.fwd (fun tq' kq' => XS.icmpYes X57.here hx rfl (pc0 := 213) (pc' := 227) rfl (hb hby at_213) rfl (own_blt (by decide) (by decide) hc213_59).1 (by decide) (by decide) kq') ?_
            show OwnGo _ _ _ _ (T57.setTop (mkF m 227 #[.val (.int pa), .val (.int pb), .val (.int pc), .val (.int pd), .val (.int pk), .val (.int (2 : Int32)), .val (.ref b43), .val (.int (Int32.ofNat n2)), .val (.ref rr)] []))
            refine OwnGo.fwd (fun tq' kq' => XS.iload X57.here hx rfl (hb hby at_227) rfl kq') ?_
            show OwnGo _ _ _ _ (T57.setTop (mkF m 229 #[.val (.int pa), .val (.int pb), .val (.int pc), .val (.int pd), .val (.int pk), .val (.int (2 : Int32)), .val (.ref b43), .val (.int (Int32.ofNat n2)), .val (.ref rr)] [(.int (2 : Int32))]))
            refine OwnGo.fwd (fun tq' kq' => XS.iconst X57.here hx rfl (hb hby at_229) kq') ?_
            show OwnGo _ _ _ _ (T57.setTop (mkF m 230 #[.val (.int pa), .val (.int pb), .val (.int pc), .val (.int pd), .val (.int pk), .val (.int (2 : Int32)), .val (.ref b43), .val (.int (Int32.ofNat n2)), .val (.ref rr)] [(.int (4 : Int32)), (.int (2 : Int32))]))
            have hc230_60 : (2 : Int) < (4 : Int) := by decide
            refine OwnGo.fwd (fun tq' kq' => XS.icmpYes X57.here hx rfl (pc0 := 230) (pc' := 244) rfl (hb hby at_230) rfl (own_blt (by decide) (by decide) hc230_60).1 (by decide) (by decide) kq') ?_
            show OwnGo _ _ _ _ (T57.setTop (mkF m 244 #[.val (.int pa), .val (.int pb), .val (.int pc), .val (.int pd), .val (.int pk), .val (.int (2 : Int32)), .val (.ref b43), .val (.int (Int32.ofNat n2)), .val (.ref rr)] []))
            refine OwnGo.fwd (fun tq' kq' => XS.iconst X57.here hx rfl (hb hby at_244) kq') ?_
            show OwnGo _ _ _ _ (T57.setTop (mkF m 245 #[.val (.int pa), .val (.int pb), .val (.int pc), .val (.int pd), .val (.int pk), .val (.int (2 : Int32)), .val (.ref b43), .val (.int (Int32.ofNat n2)), .val (.ref rr)] [(.int (1 : Int32))]))
            exact own_retZ X57 hlk hx Bd.returns (hb hby at_245) (by decide) (by decide) e57 ⟨rfl, N⟩
          refine OwnGo.fwd (fun tq' kq' => XS.iloadN X48.here hx rfl (hb hby at_94) rfl kq') ?_
          show OwnGo _ _ _ _ (T48.setTop (mkF m 95 #[.val (.int pa), .val (.int pb), .val (.int pc), .val (.int pd), .val (.int pk), .val (.int (2 : Int32)), .val (.ref b43), .val (.int (Int32.ofNat n1)), .unset] [(.int pb)]))
          refine OwnGo.fwd (fun tq' kq' => XS.iloadN X48.here hx rfl (hb hby at_95) rfl kq') ?_
          show OwnGo _ _ _ _ (T48.setTop (mkF m 96 #[.val (.int pa), .val (.int pb), .val (.int pc), .val (.int pd), .val (.int pk), .val (.int (2 : Int32)), .val (.ref b43), .val (.int (Int32.ofNat n1)), .unset] [(.int pa), (.int pb)]))
          by_cases hc96_61 : pb.toInt = pa.toInt
          · refine OwnGo.fwd (fun tq' kq' => XS.icmpYes X48.here hx rfl (pc0 := 96) (pc' := 102) rfl (hb hby at_96) rfl (own_beq rfl rfl hc96_61).1 (by decide) (by decide) kq') ?_
            show OwnGo _ _ _ _ (T48.setTop (mkF m 102 #[.val (.int pa), .val (.int pb), .val (.int pc), .val (.int pd), .val (.int pk), .val (.int (2 : Int32)), .val (.ref b43), .val (.int (Int32.ofNat n1)), .unset] []))
            have pq := ((HP1.2.2 pb nz_pb).trans (or_congr (iff_of_false (own_pr0 nz_pb) id) Iff.rfl))
            have d_hc96_61 := own_ei hc96_61
            have hs2 : n2 = n1 := by
              rcases HP2.2.1 with q | q
              · exact q.2
              · exact absurd (pq.mpr (by simp [*])) q.1
            exact J102 _ (by rw [hs2])
          · refine OwnGo.fwd (fun tq' kq' => XS.icmpNo X48.here hx rfl (hb hby at_96) rfl (own_bneq rfl rfl hc96_61).1 kq') ?_
            show OwnGo _ _ _ _ (T48.setTop (mkF m 99 #[.val (.int pa), .val (.int pb), .val (.int pc), .val (.int pd), .val (.int pk), .val (.int (2 : Int32)), .val (.ref b43), .val (.int (Int32.ofNat n1)), .unset] []))
            refine OwnGo.fwd (fun tq' kq' => XS.iinc X48.here hx rfl (hb hby at_99) rfl (l' := #[.val (.int pa), .val (.int pb), .val (.int pc), .val (.int pd), .val (.int pk), .val (.int (2 : Int32)), .val (.ref b43), .val (.int ((Int32.ofNat n1) + (1 : Int32))), .unset]) rfl kq') ?_
            show OwnGo _ _ _ _ (T48.setTop (mkF m 102 #[.val (.int pa), .val (.int pb), .val (.int pc), .val (.int pd), .val (.int pk), .val (.int (2 : Int32)), .val (.ref b43), .val (.int ((Int32.ofNat n1) + (1 : Int32))), .unset] []))
            have pq := ((HP1.2.2 pb nz_pb).trans (or_congr (iff_of_false (own_pr0 nz_pb) id) Iff.rfl))
            have d_hc96_61 := own_ni hc96_61
            have hs2 : n2 = n1 + 1 := by
              rcases HP2.2.1 with q | q
              · exact absurd (pq.mp q.1) (by simp [*])
              · exact q.2
            exact J102 _ (by rw [hs2]; first | exact own_ofNatS _ | rfl)
        refine OwnGo.fwd (fun tq' kq' => XS.iinc X46.here hx rfl (hb hby at_78) rfl (l' := #[.val (.int pa), .val (.int pb), .val (.int pc), .val (.int pd), .val (.int pk), .val (.int (2 : Int32)), .val (.ref b43), .val (.int (1 : Int32)), .unset]) rfl kq') ?_
        show OwnGo _ _ _ _ (T46.setTop (mkF m 81 #[.val (.int pa), .val (.int pb), .val (.int pc), .val (.int pd), .val (.int pk), .val (.int (2 : Int32)), .val (.ref b43), .val (.int (1 : Int32)), .unset] []))
        have pq := (iff_of_false (own_pr0 nz_pa) id)
        have hs1 : n1 = 0 + 1 := by
          rcases HP1.2.1 with q | q
          · exact absurd (pq.mp q.1) (by simp [*])
          · exact q.2
        exact J81 _ (by rw [hs1]; first | exact own_ofNatS _ | rfl)
  · show OwnGo _ _ _ _ (s₁.setTop (mkF m 7 #[.val (.int pa), .val (.int pb), .val (.int pc), .val (.int pd), .val (.int pk), .unset, .unset, .unset, .unset] [(.int (3 : Int32))]))
    refine OwnGo.fwd (fun tq' kq' => XS.istore X0.here hx rfl (hb hby at_7) rfl (l' := #[.val (.int pa), .val (.int pb), .val (.int pc), .val (.int pd), .val (.int pk), .val (.int (3 : Int32)), .unset, .unset, .unset]) rfl kq') ?_
    show OwnGo _ _ _ _ (s₁.setTop (mkF m 9 #[.val (.int pa), .val (.int pb), .val (.int pc), .val (.int pd), .val (.int pk), .val (.int (3 : Int32)), .unset, .unset, .unset] []))
    refine OwnGo.fwd (fun tq' kq' => XS.iload X0.here hx rfl (hb hby at_9) rfl kq') ?_
    show OwnGo _ _ _ _ (s₁.setTop (mkF m 11 #[.val (.int pa), .val (.int pb), .val (.int pc), .val (.int pd), .val (.int pk), .val (.int (3 : Int32)), .unset, .unset, .unset] [(.int (3 : Int32))]))
    refine OwnGo.fwd (fun tq' kq' => XS.iconst X0.here hx rfl (hb hby at_11) kq') ?_
    show OwnGo _ _ _ _ (s₁.setTop (mkF m 12 #[.val (.int pa), .val (.int pb), .val (.int pc), .val (.int pd), .val (.int pk), .val (.int (3 : Int32)), .unset, .unset, .unset] [(.int (1 : Int32)), (.int (3 : Int32))]))
    have hc12_62 : ¬ ((3 : Int) < (1 : Int)) := by decide
    refine OwnGo.fwd (fun tq' kq' => XS.icmpNo X0.here hx rfl (hb hby at_12) rfl (own_bnlt (by decide) (by decide) hc12_62).1 kq') ?_
    show OwnGo _ _ _ _ (s₁.setTop (mkF m 15 #[.val (.int pa), .val (.int pb), .val (.int pc), .val (.int pd), .val (.int pk), .val (.int (3 : Int32)), .unset, .unset, .unset] []))
    refine OwnGo.fwd (fun tq' kq' => XS.iloadN X0.here hx rfl (hb hby at_15) rfl kq') ?_
    show OwnGo _ _ _ _ (s₁.setTop (mkF m 16 #[.val (.int pa), .val (.int pb), .val (.int pc), .val (.int pd), .val (.int pk), .val (.int (3 : Int32)), .unset, .unset, .unset] [(.int pa)]))
    by_cases hc16_63 : pa.toInt = 0
    · refine OwnGo.fwd (fun tq' kq' => XS.ifYes X0.here hx rfl (pc0 := 16) (pc' := 49) rfl (hb hby at_16) rfl ((if0 _ _).trans (own_beq rfl (by decide) hc16_63).1) (by decide) (by decide) kq') ?_
      show OwnGo _ _ _ _ (s₁.setTop (mkF m 49 #[.val (.int pa), .val (.int pb), .val (.int pc), .val (.int pd), .val (.int pk), .val (.int (3 : Int32)), .unset, .unset, .unset] []))
      refine OwnGo.fwd (fun tq' kq' => XS.iconst X0.here hx rfl (hb hby at_49) kq') ?_
      show OwnGo _ _ _ _ (s₁.setTop (mkF m 50 #[.val (.int pa), .val (.int pb), .val (.int pc), .val (.int pd), .val (.int pk), .val (.int (3 : Int32)), .unset, .unset, .unset] [(.int (1 : Int32))]))
      exact own_retZ X0 hlk hx Bd.returns (hb hby at_50) (by decide) (by decide) e0 ⟨rfl, N⟩
    · refine OwnGo.fwd (fun tq' kq' => XS.ifNo X0.here hx rfl (hb hby at_16) rfl ((if0 _ _).trans (own_bneq rfl (by decide) hc16_63).1) kq') ?_
      show OwnGo _ _ _ _ (s₁.setTop (mkF m 19 #[.val (.int pa), .val (.int pb), .val (.int pc), .val (.int pd), .val (.int pk), .val (.int (3 : Int32)), .unset, .unset, .unset] []))
      refine OwnGo.fwd (fun tq' kq' => XS.iload X0.here hx rfl (hb hby at_19) rfl kq') ?_
      show OwnGo _ _ _ _ (s₁.setTop (mkF m 21 #[.val (.int pa), .val (.int pb), .val (.int pc), .val (.int pd), .val (.int pk), .val (.int (3 : Int32)), .unset, .unset, .unset] [(.int (3 : Int32))]))
      refine OwnGo.fwd (fun tq' kq' => XS.iconst X0.here hx rfl (hb hby at_21) kq') ?_
      show OwnGo _ _ _ _ (s₁.setTop (mkF m 22 #[.val (.int pa), .val (.int pb), .val (.int pc), .val (.int pd), .val (.int pk), .val (.int (3 : Int32)), .unset, .unset, .unset] [(.int (2 : Int32)), (.int (3 : Int32))]))
      have hc22_64 : ¬ ((3 : Int) < (2 : Int)) := by decide
      refine OwnGo.fwd (fun tq' kq' => XS.icmpNo X0.here hx rfl (hb hby at_22) rfl (own_bnlt (by decide) (by decide) hc22_64).1 kq') ?_
      show OwnGo _ _ _ _ (s₁.setTop (mkF m 25 #[.val (.int pa), .val (.int pb), .val (.int pc), .val (.int pd), .val (.int pk), .val (.int (3 : Int32)), .unset, .unset, .unset] []))
      refine OwnGo.fwd (fun tq' kq' => XS.iloadN X0.here hx rfl (hb hby at_25) rfl kq') ?_
      show OwnGo _ _ _ _ (s₁.setTop (mkF m 26 #[.val (.int pa), .val (.int pb), .val (.int pc), .val (.int pd), .val (.int pk), .val (.int (3 : Int32)), .unset, .unset, .unset] [(.int pb)]))
      by_cases hc26_65 : pb.toInt = 0
      · refine OwnGo.fwd (fun tq' kq' => XS.ifYes X0.here hx rfl (pc0 := 26) (pc' := 49) rfl (hb hby at_26) rfl ((if0 _ _).trans (own_beq rfl (by decide) hc26_65).1) (by decide) (by decide) kq') ?_
        show OwnGo _ _ _ _ (s₁.setTop (mkF m 49 #[.val (.int pa), .val (.int pb), .val (.int pc), .val (.int pd), .val (.int pk), .val (.int (3 : Int32)), .unset, .unset, .unset] []))
        refine OwnGo.fwd (fun tq' kq' => XS.iconst X0.here hx rfl (hb hby at_49) kq') ?_
        show OwnGo _ _ _ _ (s₁.setTop (mkF m 50 #[.val (.int pa), .val (.int pb), .val (.int pc), .val (.int pd), .val (.int pk), .val (.int (3 : Int32)), .unset, .unset, .unset] [(.int (1 : Int32))]))
        exact own_retZ X0 hlk hx Bd.returns (hb hby at_50) (by decide) (by decide) e0 ⟨rfl, N⟩
      · refine OwnGo.fwd (fun tq' kq' => XS.ifNo X0.here hx rfl (hb hby at_26) rfl ((if0 _ _).trans (own_bneq rfl (by decide) hc26_65).1) kq') ?_
        show OwnGo _ _ _ _ (s₁.setTop (mkF m 29 #[.val (.int pa), .val (.int pb), .val (.int pc), .val (.int pd), .val (.int pk), .val (.int (3 : Int32)), .unset, .unset, .unset] []))
        refine OwnGo.fwd (fun tq' kq' => XS.iload X0.here hx rfl (hb hby at_29) rfl kq') ?_
        show OwnGo _ _ _ _ (s₁.setTop (mkF m 31 #[.val (.int pa), .val (.int pb), .val (.int pc), .val (.int pd), .val (.int pk), .val (.int (3 : Int32)), .unset, .unset, .unset] [(.int (3 : Int32))]))
        refine OwnGo.fwd (fun tq' kq' => XS.iconst X0.here hx rfl (hb hby at_31) kq') ?_
        show OwnGo _ _ _ _ (s₁.setTop (mkF m 32 #[.val (.int pa), .val (.int pb), .val (.int pc), .val (.int pd), .val (.int pk), .val (.int (3 : Int32)), .unset, .unset, .unset] [(.int (3 : Int32)), (.int (3 : Int32))]))
        have hc32_66 : ¬ ((3 : Int) < (3 : Int)) := by decide
        refine OwnGo.fwd (fun tq' kq' => XS.icmpNo X0.here hx rfl (hb hby at_32) rfl (own_bnlt (by decide) (by decide) hc32_66).1 kq') ?_
        show OwnGo _ _ _ _ (s₁.setTop (mkF m 35 #[.val (.int pa), .val (.int pb), .val (.int pc), .val (.int pd), .val (.int pk), .val (.int (3 : Int32)), .unset, .unset, .unset] []))
        refine OwnGo.fwd (fun tq' kq' => XS.iloadN X0.here hx rfl (hb hby at_35) rfl kq') ?_
        show OwnGo _ _ _ _ (s₁.setTop (mkF m 36 #[.val (.int pa), .val (.int pb), .val (.int pc), .val (.int pd), .val (.int pk), .val (.int (3 : Int32)), .unset, .unset, .unset] [(.int pc)]))
        by_cases hc36_67 : pc.toInt = 0
        · refine OwnGo.fwd (fun tq' kq' => XS.ifYes X0.here hx rfl (pc0 := 36) (pc' := 49) rfl (hb hby at_36) rfl ((if0 _ _).trans (own_beq rfl (by decide) hc36_67).1) (by decide) (by decide) kq') ?_
          show OwnGo _ _ _ _ (s₁.setTop (mkF m 49 #[.val (.int pa), .val (.int pb), .val (.int pc), .val (.int pd), .val (.int pk), .val (.int (3 : Int32)), .unset, .unset, .unset] []))
          refine OwnGo.fwd (fun tq' kq' => XS.iconst X0.here hx rfl (hb hby at_49) kq') ?_
          show OwnGo _ _ _ _ (s₁.setTop (mkF m 50 #[.val (.int pa), .val (.int pb), .val (.int pc), .val (.int pd), .val (.int pk), .val (.int (3 : Int32)), .unset, .unset, .unset] [(.int (1 : Int32))]))
          exact own_retZ X0 hlk hx Bd.returns (hb hby at_50) (by decide) (by decide) e0 ⟨rfl, N⟩
        · refine OwnGo.fwd (fun tq' kq' => XS.ifNo X0.here hx rfl (hb hby at_36) rfl ((if0 _ _).trans (own_bneq rfl (by decide) hc36_67).1) kq') ?_
          show OwnGo _ _ _ _ (s₁.setTop (mkF m 39 #[.val (.int pa), .val (.int pb), .val (.int pc), .val (.int pd), .val (.int pk), .val (.int (3 : Int32)), .unset, .unset, .unset] []))
          refine OwnGo.fwd (fun tq' kq' => XS.iload X0.here hx rfl (hb hby at_39) rfl kq') ?_
          show OwnGo _ _ _ _ (s₁.setTop (mkF m 41 #[.val (.int pa), .val (.int pb), .val (.int pc), .val (.int pd), .val (.int pk), .val (.int (3 : Int32)), .unset, .unset, .unset] [(.int (3 : Int32))]))
          refine OwnGo.fwd (fun tq' kq' => XS.iconst X0.here hx rfl (hb hby at_41) kq') ?_
          show OwnGo _ _ _ _ (s₁.setTop (mkF m 42 #[.val (.int pa), .val (.int pb), .val (.int pc), .val (.int pd), .val (.int pk), .val (.int (3 : Int32)), .unset, .unset, .unset] [(.int (4 : Int32)), (.int (3 : Int32))]))
          have hc42_68 : (3 : Int) < (4 : Int) := by decide
          refine OwnGo.fwd (fun tq' kq' => XS.icmpYes X0.here hx rfl (pc0 := 42) (pc' := 51) rfl (hb hby at_42) rfl (own_blt (by decide) (by decide) hc42_68).1 (by decide) (by decide) kq') ?_
          show OwnGo _ _ _ _ (s₁.setTop (mkF m 51 #[.val (.int pa), .val (.int pb), .val (.int pc), .val (.int pd), .val (.int pk), .val (.int (3 : Int32)), .unset, .unset, .unset] []))
          have nz_pa := own_nz hc16_63
          have nz_pb := own_nz hc26_65
          have nz_pc := own_nz hc36_67
          obtain ⟨T69, h69, X69, e69, E69, A69, D69, -, st69⟩ := newO X0 hx hZ hown (hw _ (List.mem_of_getElem? (i := 1) rfl)) (hw _ (List.mem_of_getElem? (i := 2) rfl)) (hw _ (List.mem_of_getElem? (i := 3) rfl)) e0 (g := (mkF m 51 #[.val (.int pa), .val (.int pb), .val (.int pc), .val (.int pd), .val (.int pk), .val (.int (3 : Int32)), .unset, .unset, .unset] [])) rfl (hb hby at_51) (by decide) (by decide)
          obtain ⟨b69, g69⟩ : ∃ z, z = h0.size := ⟨_, rfl⟩
          rw [← g69] at A69 D69 st69
          have g_b69 : n0 ≤ b69 := Nat.le_trans Zs (Nat.le_of_eq g69.symm)
          have Zs := Nat.le_trans Zs E69.1
          have E_b69 := A69
          have F_ids_b69 : Fld Z h69 b69 "com/example/rolestack/rolestack/NumbersById" "ids" "[I" .null := D69 (Or.inr (hw _ (List.mem_of_getElem? (i := 12) rfl))) (ty := (.array .int)) (by decide)
          have F_numbers_b69 : Fld Z h69 b69 "com/example/rolestack/rolestack/NumbersById" "numbers" "[I" .null := D69 (Or.inr (hw _ (List.mem_of_getElem? (i := 14) rfl))) (ty := (.array .int)) (by decide)
          have F_shift_b69 : Fld Z h69 b69 "com/example/rolestack/rolestack/NumbersById" "shift" "I" (.int (0 : Int32)) := D69 (Or.inr (hw _ (List.mem_of_getElem? (i := 21) rfl))) (ty := .int) (by decide)
          have F_size_b69 : Fld Z h69 b69 "com/example/rolestack/rolestack/NumbersById" "size" "I" (.int (0 : Int32)) := D69 (Or.inl (hw _ (List.mem_of_getElem? (i := 28) rfl))) (ty := .int) (by decide)
          refine OwnGo.fwd st69 ?_
          show OwnGo _ _ _ _ (T69.setTop (mkF m 54 #[.val (.int pa), .val (.int pb), .val (.int pc), .val (.int pd), .val (.int pk), .val (.int (3 : Int32)), .unset, .unset, .unset] [(.ref b69)]))
          refine OwnGo.fwd (fun tq' kq' => XS.dup X69.here hx rfl (hb hby at_54) rfl rfl kq') ?_
          show OwnGo _ _ _ _ (T69.setTop (mkF m 55 #[.val (.int pa), .val (.int pb), .val (.int pc), .val (.int pd), .val (.int pk), .val (.int (3 : Int32)), .unset, .unset, .unset] [(.ref b69), (.ref b69)]))
          refine OwnGo.fwd (fun tq' kq' => XS.bipush X69.here hx rfl (hb hby at_55) kq') ?_
          show OwnGo _ _ _ _ (T69.setTop (mkF m 57 #[.val (.int pa), .val (.int pb), .val (.int pc), .val (.int pd), .val (.int pk), .val (.int (3 : Int32)), .unset, .unset, .unset] [(.int (16 : Int32)), (.ref b69), (.ref b69)]))
          obtain ⟨_, _, ⟨T70, L70, k70, n70⟩, -, X70, ⟨Lc70, hQ70, l70, y70, z70⟩, st70⟩ := X69.specialBack hx (y := (⟨"com/example/rolestack/rolestack/NumbersById", "<init>", "(I)V"⟩ : MethodName)) rfl hown (mvT hZ (hw _ (List.mem_of_getElem? (i := 4) rfl))) (mvT hZ (hw _ (List.mem_of_getElem? (i := 5) rfl))) (mvT hZ (hw _ (List.mem_of_getElem? (i := 6) rfl))) (by decide) (backOf (W := 1) (rm1 l Z a0 hw [] b69 h69 n0 Zs E_b69 F_ids_b69 F_numbers_b69 F_shift_b69 F_size_b69 g_b69) hZ (hw _ (List.mem_of_getElem? (i := 6) rfl)) (hw _ (List.mem_of_getElem? (i := 3) rfl)) (by decide) (by decide)) (g := (mkF m 57 #[.val (.int pa), .val (.int pb), .val (.int pc), .val (.int pd), .val (.int pk), .val (.int (3 : Int32)), .unset, .unset, .unset] [(.int (16 : Int32)), (.ref b69), (.ref b69)])) rfl (by rw [hml]; rfl) (Steps.refl _) (a := b69) (argsL := [(.int (16 : Int32))]) (rest := [(.ref b69)]) (lenOf pd_0 rfl) rfl (by show 2 * 0 + _ ≤ _; exact Nat.le_of_eq rfl) (hb hby at_57) (fun _ _ => ⟨rfl, e69, (by decide : 1 + 2 ≤ _), (by decide : 4 + 32 ≤ _)⟩)
          dsimp only [Pt.U, Pt.locs, Pt.cells, Pt.slots] at X70 l70 y70 z70 st70 hQ70
          subst l70 y70 z70
          obtain ⟨h70, eh70⟩ : ∃ z, z = T70.heap := ⟨_, rfl⟩
          rw [← eh70] at hQ70
          obtain ⟨rfl, N70q, K70, ia, na, sz_ia, sz_na, E_b69, F_ids_b69, F_numbers_b69, F_shift_b69, F_size_b69, V_ia, V_na, ne_b69_ia, ne_b69_na, ne_ia_na, g_b69, g_ia, g_na⟩ := hQ70
          have N := Fr.app N N70q
          have Zs := Nat.le_trans Zs K70.1
          have I0 := own_Inv0
          refine OwnGo.thru st70 ?_
          show OwnGo _ _ _ _ (T70.setTop (mkF m 60 #[.val (.int pa), .val (.int pb), .val (.int pc), .val (.int pd), .val (.int pk), .val (.int (3 : Int32)), .unset, .unset, .unset] [(.ref b69)]))
          refine OwnGo.fwd (fun tq' kq' => XS.astore X70.here hx rfl (hb hby at_60) rfl rfl (l' := #[.val (.int pa), .val (.int pb), .val (.int pc), .val (.int pd), .val (.int pk), .val (.int (3 : Int32)), .val (.ref b69), .unset, .unset]) rfl kq') ?_
          show OwnGo _ _ _ _ (T70.setTop (mkF m 62 #[.val (.int pa), .val (.int pb), .val (.int pc), .val (.int pd), .val (.int pk), .val (.int (3 : Int32)), .val (.ref b69), .unset, .unset] []))
          refine OwnGo.fwd (fun tq' kq' => XS.iconst X70.here hx rfl (hb hby at_62) kq') ?_
          show OwnGo _ _ _ _ (T70.setTop (mkF m 63 #[.val (.int pa), .val (.int pb), .val (.int pc), .val (.int pd), .val (.int pk), .val (.int (3 : Int32)), .val (.ref b69), .unset, .unset] [(.int (0 : Int32))]))
          refine OwnGo.fwd (fun tq' kq' => XS.istore X70.here hx rfl (hb hby at_63) rfl (l' := #[.val (.int pa), .val (.int pb), .val (.int pc), .val (.int pd), .val (.int pk), .val (.int (3 : Int32)), .val (.ref b69), .val (.int (0 : Int32)), .unset]) rfl kq') ?_
          show OwnGo _ _ _ _ (T70.setTop (mkF m 65 #[.val (.int pa), .val (.int pb), .val (.int pc), .val (.int pd), .val (.int pk), .val (.int (3 : Int32)), .val (.ref b69), .val (.int (0 : Int32)), .unset] []))
          refine OwnGo.fwd (fun tq' kq' => XS.iload X70.here hx rfl (hb hby at_65) rfl kq') ?_
          show OwnGo _ _ _ _ (T70.setTop (mkF m 67 #[.val (.int pa), .val (.int pb), .val (.int pc), .val (.int pd), .val (.int pk), .val (.int (3 : Int32)), .val (.ref b69), .val (.int (0 : Int32)), .unset] [(.int (3 : Int32))]))
          refine OwnGo.fwd (fun tq' kq' => XS.iconst X70.here hx rfl (hb hby at_67) kq') ?_
          show OwnGo _ _ _ _ (T70.setTop (mkF m 68 #[.val (.int pa), .val (.int pb), .val (.int pc), .val (.int pd), .val (.int pk), .val (.int (3 : Int32)), .val (.ref b69), .val (.int (0 : Int32)), .unset] [(.int (1 : Int32)), (.int (3 : Int32))]))
          have hc68_71 : ¬ ((3 : Int) < (1 : Int)) := by decide
          refine OwnGo.fwd (fun tq' kq' => XS.icmpNo X70.here hx rfl (hb hby at_68) rfl (own_bnlt (by decide) (by decide) hc68_71).1 kq') ?_
          show OwnGo _ _ _ _ (T70.setTop (mkF m 71 #[.val (.int pa), .val (.int pb), .val (.int pc), .val (.int pd), .val (.int pk), .val (.int (3 : Int32)), .val (.ref b69), .val (.int (0 : Int32)), .unset] []))
          refine OwnGo.fwd (fun tq' kq' => XS.aload X70.here hx rfl (hb hby at_71) rfl rfl kq') ?_
          show OwnGo _ _ _ _ (T70.setTop (mkF m 73 #[.val (.int pa), .val (.int pb), .val (.int pc), .val (.int pd), .val (.int pk), .val (.int (3 : Int32)), .val (.ref b69), .val (.int (0 : Int32)), .unset] [(.ref b69)]))
          refine OwnGo.fwd (fun tq' kq' => XS.iloadN X70.here hx rfl (hb hby at_73) rfl kq') ?_
          show OwnGo _ _ _ _ (T70.setTop (mkF m 74 #[.val (.int pa), .val (.int pb), .val (.int pc), .val (.int pd), .val (.int pk), .val (.int (3 : Int32)), .val (.ref b69), .val (.int (0 : Int32)), .unset] [(.int pa), (.ref b69)]))
          refine OwnGo.fwd (fun tq' kq' => XS.iconst X70.here hx rfl (hb hby at_74) kq') ?_
          show OwnGo _ _ _ _ (T70.setTop (mkF m 75 #[.val (.int pa), .val (.int pb), .val (.int pc), .val (.int pd), .val (.int pk), .val (.int (3 : Int32)), .val (.ref b69), .val (.int (0 : Int32)), .unset] [(.int (1 : Int32)), (.int pa), (.ref b69)]))
          obtain ⟨cq72, kq72, q72a, q72b, q72c⟩ := isOf hZ eh70.symm E_b69
          obtain ⟨_, _, ⟨T72, L72, k72, n72⟩, -, X72, ⟨Lc72, hQ72, l72, y72, z72⟩, st72⟩ := X70.virtualBack hx (y := (⟨"com/example/rolestack/rolestack/NumbersById", "put", "(II)V"⟩ : MethodName)) (z := (⟨"com/example/rolestack/rolestack/NumbersById", "put", "(II)V"⟩ : MethodName)) hown (mvT hZ (hw _ (List.mem_of_getElem? (i := 29) rfl))) (mvT hZ (hw _ (List.mem_of_getElem? (i := 30) rfl))) (notFace_of_selects (args := #[]) (mvT hZ (hw _ (List.mem_of_getElem? (i := 32) rfl)))) (mvT hZ (hw _ (List.mem_of_getElem? (i := 32) rfl))) (mvT hZ (hw _ (List.mem_of_getElem? (i := 31) rfl))) (by decide) (backOf (W := 0) (rm5 l Z a0 hw [] b69 ia na 0 (fun _ => 0) (fun _ => 0) pa (1 : Int32) h70 n0 Zs ⟨E_b69, F_ids_b69, F_numbers_b69, F_shift_b69, F_size_b69, V_ia, V_na, ne_b69_ia, ne_b69_na, ne_ia_na, g_b69, g_ia, g_na⟩ I0 (by decide) nz_pa) hZ (hw _ (List.mem_of_getElem? (i := 33) rfl)) (hw _ (List.mem_of_getElem? (i := 3) rfl)) (by decide) (by decide)) q72a q72c (g := (mkF m 75 #[.val (.int pa), .val (.int pb), .val (.int pc), .val (.int pd), .val (.int pk), .val (.int (3 : Int32)), .val (.ref b69), .val (.int (0 : Int32)), .unset] [(.int (1 : Int32)), (.int pa), (.ref b69)])) rfl (by rw [hml]; rfl) (Steps.refl _) (argsL := [(.int pa), (.int (1 : Int32))]) (rest := []) (lenOf pd_4 rfl) rfl (by show 2 * 0 + _ ≤ _; exact Nat.le_of_eq rfl) (hb hby at_75) (fun _ _ => ⟨rfl, eh70.symm, (by decide : 3 + 0 ≤ _), (by decide : 36 + 0 ≤ _)⟩)
          dsimp only [Pt.U, Pt.locs, Pt.cells, Pt.slots] at X72 l72 y72 z72 st72 hQ72
          subst l72 y72 z72
          obtain ⟨h72, eh72⟩ : ∃ z, z = T72.heap := ⟨_, rfl⟩
          rw [← eh72] at hQ72
          obtain ⟨rfl, N72q, K72, n1, f1, u1, ⟨E_b69, F_ids_b69, F_numbers_b69, F_shift_b69, F_size_b69, V_ia, V_na, ne_b69_ia, ne_b69_na, ne_ia_na, g_b69, g_ia, g_na⟩, HP1⟩ := hQ72
          have N := Fr.app N N72q
          have Zs := Nat.le_trans Zs K72.1
          have hle1 : n1 ≤ 0 + 1 := by rcases HP1.2.1 with q | q <;> omega
          refine OwnGo.thru st72 ?_
          show OwnGo _ _ _ _ (T72.setTop (mkF m 78 #[.val (.int pa), .val (.int pb), .val (.int pc), .val (.int pd), .val (.int pk), .val (.int (3 : Int32)), .val (.ref b69), .val (.int (0 : Int32)), .unset] []))
          have J81 : ∀ dd : Int32, dd = Int32.ofNat n1 → OwnGo p.tables e below (OwnEnd s (Q0 Z pa pb pc pd pk h0 n0) room_1.cells room_1.slots) (T72.setTop (mkF m 81 #[.val (.int pa), .val (.int pb), .val (.int pc), .val (.int pd), .val (.int pk), .val (.int (3 : Int32)), .val (.ref b69), .val (.int dd), .unset] [])) := by
            intro dd hdd
            subst hdd
            show OwnGo _ _ _ _ (T72.setTop (mkF m 81 #[.val (.int pa), .val (.int pb), .val (.int pc), .val (.int pd), .val (.int pk), .val (.int (3 : Int32)), .val (.ref b69), .val (.int (Int32.ofNat n1)), .unset] []))
            refine OwnGo.fwd (fun tq' kq' => XS.iload X72.here hx rfl (hb hby at_81) rfl kq') ?_
            show OwnGo _ _ _ _ (T72.setTop (mkF m 83 #[.val (.int pa), .val (.int pb), .val (.int pc), .val (.int pd), .val (.int pk), .val (.int (3 : Int32)), .val (.ref b69), .val (.int (Int32.ofNat n1)), .unset] [(.int (3 : Int32))]))
            refine OwnGo.fwd (fun tq' kq' => XS.iconst X72.here hx rfl (hb hby at_83) kq') ?_
            show OwnGo _ _ _ _ (T72.setTop (mkF m 84 #[.val (.int pa), .val (.int pb), .val (.int pc), .val (.int pd), .val (.int pk), .val (.int (3 : Int32)), .val (.ref b69), .val (.int (Int32.ofNat n1)), .unset] [(.int (2 : Int32)), (.int (3 : Int32))]))
            have hc84_73 : ¬ ((3 : Int) < (2 : Int)) := by decide
            refine OwnGo.fwd (fun tq' kq' => XS.icmpNo X72.here hx rfl (hb hby at_84) rfl (own_bnlt (by decide) (by decide) hc84_73).1 kq') ?_
            show OwnGo _ _ _ _ (T72.setTop (mkF m 87 #[.val (.int pa), .val (.int pb), .val (.int pc), .val (.int pd), .val (.int pk), .val (.int (3 : Int32)), .val (.ref b69), .val (.int (Int32.ofNat n1)), .unset] []))
            refine OwnGo.fwd (fun tq' kq' => XS.aload X72.here hx rfl (hb hby at_87) rfl rfl kq') ?_
            show OwnGo _ _ _ _ (T72.setTop (mkF m 89 #[.val (.int pa), .val (.int pb), .val (.int pc), .val (.int pd), .val (.int pk), .val (.int (3 : Int32)), .val (.ref b69), .val (.int (Int32.ofNat n1)), .unset] [(.ref b69)]))
            refine OwnGo.fwd (fun tq' kq' => XS.iloadN X72.here hx rfl (hb hby at_89) rfl kq') ?_
            show OwnGo _ _ _ _ (T72.setTop (mkF m 90 #[.val (.int pa), .val (.int pb), .val (.int pc), .val (.int pd), .val (.int pk), .val (.int (3 : Int32)), .val (.ref b69), .val (.int (Int32.ofNat n1)), .unset] [(.int pb), (.ref b69)]))
            refine OwnGo.fwd (fun tq' kq' => XS.iconst X72.here hx rfl (hb hby at_90) kq') ?_
            show OwnGo _ _ _ _ (T72.setTop (mkF m 91 #[.val (.int pa), .val (.int pb), .val (.int pc), .val (.int pd), .val (.int pk), .val (.int (3 : Int32)), .val (.ref b69), .val (.int (Int32.ofNat n1)), .unset] [(.int (2 : Int32)), (.int pb), (.ref b69)]))
            obtain ⟨cq74, kq74, q74a, q74b, q74c⟩ := isOf hZ eh72.symm E_b69
            obtain ⟨_, _, ⟨T74, L74, k74, n74⟩, -, X74, ⟨Lc74, hQ74, l74, y74, z74⟩, st74⟩ := X72.virtualBack hx (y := (⟨"com/example/rolestack/rolestack/NumbersById", "put", "(II)V"⟩ : MethodName)) (z := (⟨"com/example/rolestack/rolestack/NumbersById", "put", "(II)V"⟩ : MethodName)) hown (mvT hZ (hw _ (List.mem_of_getElem? (i := 29) rfl))) (mvT hZ (hw _ (List.mem_of_getElem? (i := 30) rfl))) (notFace_of_selects (args := #[]) (mvT hZ (hw _ (List.mem_of_getElem? (i := 32) rfl)))) (mvT hZ (hw _ (List.mem_of_getElem? (i := 32) rfl))) (mvT hZ (hw _ (List.mem_of_getElem? (i := 31) rfl))) (by decide) (backOf (W := 0) (rm5 l Z a0 hw [] b69 ia na n1 f1 u1 pb (2 : Int32) h72 n0 Zs ⟨E_b69, F_ids_b69, F_numbers_b69, F_shift_b69, F_size_b69, V_ia, V_na, ne_b69_ia, ne_b69_na, ne_ia_na, g_b69, g_ia, g_na⟩ HP1.1 (by omega) nz_pb) hZ (hw _ (List.mem_of_getElem? (i := 33) rfl)) (hw _ (List.mem_of_getElem? (i := 3) rfl)) (by decide) (by decide)) q74a q74c (g := (mkF m 91 #[.val (.int pa), .val (.int pb), .val (.int pc), .val (.int pd), .val (.int pk), .val (.int (3 : Int32)), .val (.ref b69), .val (.int (Int32.ofNat n1)), .unset] [(.int (2 : Int32)), (.int pb), (.ref b69)])) rfl (by rw [hml]; rfl) (Steps.refl _) (argsL := [(.int pb), (.int (2 : Int32))]) (rest := []) (lenOf pd_4 rfl) rfl (by show 2 * 0 + _ ≤ _; exact Nat.le_of_eq rfl) (hb hby at_91) (fun _ _ => ⟨rfl, eh72.symm, (by decide : 3 + 0 ≤ _), (by decide : 36 + 0 ≤ _)⟩)
            dsimp only [Pt.U, Pt.locs, Pt.cells, Pt.slots] at X74 l74 y74 z74 st74 hQ74
            subst l74 y74 z74
            obtain ⟨h74, eh74⟩ : ∃ z, z = T74.heap := ⟨_, rfl⟩
            rw [← eh74] at hQ74
            obtain ⟨rfl, N74q, K74, n2, f2, u2, ⟨E_b69, F_ids_b69, F_numbers_b69, F_shift_b69, F_size_b69, V_ia, V_na, ne_b69_ia, ne_b69_na, ne_ia_na, g_b69, g_ia, g_na⟩, HP2⟩ := hQ74
            have N := Fr.app N N74q
            have Zs := Nat.le_trans Zs K74.1
            have hle2 : n2 ≤ n1 + 1 := by rcases HP2.2.1 with q | q <;> omega
            refine OwnGo.thru st74 ?_
            show OwnGo _ _ _ _ (T74.setTop (mkF m 94 #[.val (.int pa), .val (.int pb), .val (.int pc), .val (.int pd), .val (.int pk), .val (.int (3 : Int32)), .val (.ref b69), .val (.int (Int32.ofNat n1)), .unset] []))
            have J102 : ∀ dd : Int32, dd = Int32.ofNat n2 → OwnGo p.tables e below (OwnEnd s (Q0 Z pa pb pc pd pk h0 n0) room_1.cells room_1.slots) (T74.setTop (mkF m 102 #[.val (.int pa), .val (.int pb), .val (.int pc), .val (.int pd), .val (.int pk), .val (.int (3 : Int32)), .val (.ref b69), .val (.int dd), .unset] [])) := by
              intro dd hdd
              subst hdd
              show OwnGo _ _ _ _ (T74.setTop (mkF m 102 #[.val (.int pa), .val (.int pb), .val (.int pc), .val (.int pd), .val (.int pk), .val (.int (3 : Int32)), .val (.ref b69), .val (.int (Int32.ofNat n2)), .unset] []))
              refine OwnGo.fwd (fun tq' kq' => XS.iload X74.here hx rfl (hb hby at_102) rfl kq') ?_
              show OwnGo _ _ _ _ (T74.setTop (mkF m 104 #[.val (.int pa), .val (.int pb), .val (.int pc), .val (.int pd), .val (.int pk), .val (.int (3 : Int32)), .val (.ref b69), .val (.int (Int32.ofNat n2)), .unset] [(.int (3 : Int32))]))
              refine OwnGo.fwd (fun tq' kq' => XS.iconst X74.here hx rfl (hb hby at_104) kq') ?_
              show OwnGo _ _ _ _ (T74.setTop (mkF m 105 #[.val (.int pa), .val (.int pb), .val (.int pc), .val (.int pd), .val (.int pk), .val (.int (3 : Int32)), .val (.ref b69), .val (.int (Int32.ofNat n2)), .unset] [(.int (3 : Int32)), (.int (3 : Int32))]))
              have hc105_75 : ¬ ((3 : Int) < (3 : Int)) := by decide
              refine OwnGo.fwd (fun tq' kq' => XS.icmpNo X74.here hx rfl (hb hby at_105) rfl (own_bnlt (by decide) (by decide) hc105_75).1 kq') ?_
              show OwnGo _ _ _ _ (T74.setTop (mkF m 108 #[.val (.int pa), .val (.int pb), .val (.int pc), .val (.int pd), .val (.int pk), .val (.int (3 : Int32)), .val (.ref b69), .val (.int (Int32.ofNat n2)), .unset] []))
              refine OwnGo.fwd (fun tq' kq' => XS.aload X74.here hx rfl (hb hby at_108) rfl rfl kq') ?_
              show OwnGo _ _ _ _ (T74.setTop (mkF m 110 #[.val (.int pa), .val (.int pb), .val (.int pc), .val (.int pd), .val (.int pk), .val (.int (3 : Int32)), .val (.ref b69), .val (.int (Int32.ofNat n2)), .unset] [(.ref b69)]))
              refine OwnGo.fwd (fun tq' kq' => XS.iloadN X74.here hx rfl (hb hby at_110) rfl kq') ?_
              show OwnGo _ _ _ _ (T74.setTop (mkF m 111 #[.val (.int pa), .val (.int pb), .val (.int pc), .val (.int pd), .val (.int pk), .val (.int (3 : Int32)), .val (.ref b69), .val (.int (Int32.ofNat n2)), .unset] [(.int pc), (.ref b69)]))
              refine OwnGo.fwd (fun tq' kq' => XS.iconst X74.here hx rfl (hb hby at_111) kq') ?_
              show OwnGo _ _ _ _ (T74.setTop (mkF m 112 #[.val (.int pa), .val (.int pb), .val (.int pc), .val (.int pd), .val (.int pk), .val (.int (3 : Int32)), .val (.ref b69), .val (.int (Int32.ofNat n2)), .unset] [(.int (3 : Int32)), (.int pc), (.ref b69)]))
              obtain ⟨cq76, kq76, q76a, q76b, q76c⟩ := isOf hZ eh74.symm E_b69
              obtain ⟨_, _, ⟨T76, L76, k76, n76⟩, -, X76, ⟨Lc76, hQ76, l76, y76, z76⟩, st76⟩ := X74.virtualBack hx (y := (⟨"com/example/rolestack/rolestack/NumbersById", "put", "(II)V"⟩ : MethodName)) (z := (⟨"com/example/rolestack/rolestack/NumbersById", "put", "(II)V"⟩ : MethodName)) hown (mvT hZ (hw _ (List.mem_of_getElem? (i := 29) rfl))) (mvT hZ (hw _ (List.mem_of_getElem? (i := 30) rfl))) (notFace_of_selects (args := #[]) (mvT hZ (hw _ (List.mem_of_getElem? (i := 32) rfl)))) (mvT hZ (hw _ (List.mem_of_getElem? (i := 32) rfl))) (mvT hZ (hw _ (List.mem_of_getElem? (i := 31) rfl))) (by decide) (backOf (W := 0) (rm5 l Z a0 hw [] b69 ia na n2 f2 u2 pc (3 : Int32) h74 n0 Zs ⟨E_b69, F_ids_b69, F_numbers_b69, F_shift_b69, F_size_b69, V_ia, V_na, ne_b69_ia, ne_b69_na, ne_ia_na, g_b69, g_ia, g_na⟩ HP2.1 (by omega) nz_pc) hZ (hw _ (List.mem_of_getElem? (i := 33) rfl)) (hw _ (List.mem_of_getElem? (i := 3) rfl)) (by decide) (by decide)) q76a q76c (g := (mkF m 112 #[.val (.int pa), .val (.int pb), .val (.int pc), .val (.int pd), .val (.int pk), .val (.int (3 : Int32)), .val (.ref b69), .val (.int (Int32.ofNat n2)), .unset] [(.int (3 : Int32)), (.int pc), (.ref b69)])) rfl (by rw [hml]; rfl) (Steps.refl _) (argsL := [(.int pc), (.int (3 : Int32))]) (rest := []) (lenOf pd_4 rfl) rfl (by show 2 * 0 + _ ≤ _; exact Nat.le_of_eq rfl) (hb hby at_112) (fun _ _ => ⟨rfl, eh74.symm, (by decide : 3 + 0 ≤ _), (by decide : 36 + 0 ≤ _)⟩)
              dsimp only [Pt.U, Pt.locs, Pt.cells, Pt.slots] at X76 l76 y76 z76 st76 hQ76
              subst l76 y76 z76
              obtain ⟨h76, eh76⟩ : ∃ z, z = T76.heap := ⟨_, rfl⟩
              rw [← eh76] at hQ76
              obtain ⟨rfl, N76q, K76, n3, f3, u3, ⟨E_b69, F_ids_b69, F_numbers_b69, F_shift_b69, F_size_b69, V_ia, V_na, ne_b69_ia, ne_b69_na, ne_ia_na, g_b69, g_ia, g_na⟩, HP3⟩ := hQ76
              have N := Fr.app N N76q
              have Zs := Nat.le_trans Zs K76.1
              have hle3 : n3 ≤ n2 + 1 := by rcases HP3.2.1 with q | q <;> omega
              refine OwnGo.thru st76 ?_
              show OwnGo _ _ _ _ (T76.setTop (mkF m 115 #[.val (.int pa), .val (.int pb), .val (.int pc), .val (.int pd), .val (.int pk), .val (.int (3 : Int32)), .val (.ref b69), .val (.int (Int32.ofNat n2)), .unset] []))
              have J128 : ∀ dd : Int32, dd = Int32.ofNat n3 → OwnGo p.tables e below (OwnEnd s (Q0 Z pa pb pc pd pk h0 n0) room_1.cells room_1.slots) (T76.setTop (mkF m 128 #[.val (.int pa), .val (.int pb), .val (.int pc), .val (.int pd), .val (.int pk), .val (.int (3 : Int32)), .val (.ref b69), .val (.int dd), .unset] [])) := by
                intro dd hdd
                subst hdd
                show OwnGo _ _ _ _ (T76.setTop (mkF m 128 #[.val (.int pa), .val (.int pb), .val (.int pc), .val (.int pd), .val (.int pk), .val (.int (3 : Int32)), .val (.ref b69), .val (.int (Int32.ofNat n3)), .unset] []))
                refine OwnGo.fwd (fun tq' kq' => XS.iload X76.here hx rfl (hb hby at_128) rfl kq') ?_
                show OwnGo _ _ _ _ (T76.setTop (mkF m 130 #[.val (.int pa), .val (.int pb), .val (.int pc), .val (.int pd), .val (.int pk), .val (.int (3 : Int32)), .val (.ref b69), .val (.int (Int32.ofNat n3)), .unset] [(.int (3 : Int32))]))
                refine OwnGo.fwd (fun tq' kq' => XS.iconst X76.here hx rfl (hb hby at_130) kq') ?_
                show OwnGo _ _ _ _ (T76.setTop (mkF m 131 #[.val (.int pa), .val (.int pb), .val (.int pc), .val (.int pd), .val (.int pk), .val (.int (3 : Int32)), .val (.ref b69), .val (.int (Int32.ofNat n3)), .unset] [(.int (4 : Int32)), (.int (3 : Int32))]))
                have hc131_77 : (3 : Int) < (4 : Int) := by decide
                refine OwnGo.fwd (fun tq' kq' => XS.icmpYes X76.here hx rfl (pc0 := 131) (pc' := 159) rfl (hb hby at_131) rfl (own_blt (by decide) (by decide) hc131_77).1 (by decide) (by decide) kq') ?_
                show OwnGo _ _ _ _ (T76.setTop (mkF m 159 #[.val (.int pa), .val (.int pb), .val (.int pc), .val (.int pd), .val (.int pk), .val (.int (3 : Int32)), .val (.ref b69), .val (.int (Int32.ofNat n3)), .unset] []))
                refine OwnGo.fwd (fun tq' kq' => XS.aload X76.here hx rfl (hb hby at_159) rfl rfl kq') ?_
                show OwnGo _ _ _ _ (T76.setTop (mkF m 161 #[.val (.int pa), .val (.int pb), .val (.int pc), .val (.int pd), .val (.int pk), .val (.int (3 : Int32)), .val (.ref b69), .val (.int (Int32.ofNat n3)), .unset] [(.ref b69)]))
                obtain ⟨cq78, kq78, q78a, q78b, q78c⟩ := isOf hZ eh76.symm E_b69
                obtain ⟨_, _, ⟨T78, L78, k78, n78⟩, -, X78, ⟨Lc78, hQ78, l78, y78, z78⟩, st78⟩ := X76.virtualBack hx (y := (⟨"com/example/rolestack/rolestack/NumbersById", "ids", "()[I"⟩ : MethodName)) (z := (⟨"com/example/rolestack/rolestack/NumbersById", "ids", "()[I"⟩ : MethodName)) hown (mvT hZ (hw _ (List.mem_of_getElem? (i := 22) rfl))) (mvT hZ (hw _ (List.mem_of_getElem? (i := 23) rfl))) (notFace_of_selects (args := #[]) (mvT hZ (hw _ (List.mem_of_getElem? (i := 25) rfl)))) (mvT hZ (hw _ (List.mem_of_getElem? (i := 25) rfl))) (mvT hZ (hw _ (List.mem_of_getElem? (i := 24) rfl))) (by decide) (backOf (W := 0) (rm4 l Z a0 hw [] b69 ia na n3 f3 u3 h76 n0 Zs ⟨E_b69, F_ids_b69, F_numbers_b69, F_shift_b69, F_size_b69, V_ia, V_na, ne_b69_ia, ne_b69_na, ne_ia_na, g_b69, g_ia, g_na⟩ HP3.1 (by omega)) hZ (hw _ (List.mem_of_getElem? (i := 26) rfl)) (hw _ (List.mem_of_getElem? (i := 3) rfl)) (by decide) (by decide)) q78a q78c (g := (mkF m 161 #[.val (.int pa), .val (.int pb), .val (.int pc), .val (.int pd), .val (.int pk), .val (.int (3 : Int32)), .val (.ref b69), .val (.int (Int32.ofNat n3)), .unset] [(.ref b69)])) rfl (by rw [hml]; rfl) (Steps.refl _) (argsL := []) (rest := []) (lenOf pd_3 rfl) rfl (by show 2 * 0 + _ ≤ _; exact Nat.le_of_eq rfl) (hb hby at_161) (fun _ _ => ⟨rfl, eh76.symm, (by decide : 3 + 1 ≤ _), (by decide : 36 + 4 ≤ _)⟩)
                dsimp only [Pt.U, Pt.locs, Pt.cells, Pt.slots] at X78 l78 y78 z78 st78 hQ78
                subst l78 y78 z78
                obtain ⟨rr, g78⟩ : ∃ z, z = h76.size := ⟨_, rfl⟩
                obtain ⟨h78, eh78⟩ : ∃ z, z = T78.heap := ⟨_, rfl⟩
                rw [← eh78] at hQ78
                obtain ⟨rfl, N78q, K78, uu, Vr78, huu⟩ := hQ78
                have N := Fr.app N N78q
                have Zs := Nat.le_trans Zs K78.1
                have E_b69 := E_b69.keep K78
                have F_ids_b69 := F_ids_b69.keep K78 nin0
                have F_numbers_b69 := F_numbers_b69.keep K78 nin0
                have F_shift_b69 := F_shift_b69.keep K78 nin0
                have F_size_b69 := F_size_b69.keep K78 nin0
                have V_ia := V_ia.keep K78 nin0
                have V_na := V_na.keep K78 nin0
                rw [← g78] at Vr78 st78
                have V_rr := Vr78
                refine OwnGo.thru st78 ?_
                show OwnGo _ _ _ _ (T78.setTop (mkF m 164 #[.val (.int pa), .val (.int pb), .val (.int pc), .val (.int pd), .val (.int pk), .val (.int (3 : Int32)), .val (.ref b69), .val (.int (Int32.ofNat n3)), .unset] [(.ref rr)]))
                refine OwnGo.fwd (fun tq' kq' => XS.astore X78.here hx rfl (hb hby at_164) rfl rfl (l' := #[.val (.int pa), .val (.int pb), .val (.int pc), .val (.int pd), .val (.int pk), .val (.int (3 : Int32)), .val (.ref b69), .val (.int (Int32.ofNat n3)), .val (.ref rr)]) rfl kq') ?_
                show OwnGo _ _ _ _ (T78.setTop (mkF m 166 #[.val (.int pa), .val (.int pb), .val (.int pc), .val (.int pd), .val (.int pk), .val (.int (3 : Int32)), .val (.ref b69), .val (.int (Int32.ofNat n3)), .val (.ref rr)] []))
                refine OwnGo.fwd (fun tq' kq' => XS.aload X78.here hx rfl (hb hby at_166) rfl rfl kq') ?_
                show OwnGo _ _ _ _ (T78.setTop (mkF m 168 #[.val (.int pa), .val (.int pb), .val (.int pc), .val (.int pd), .val (.int pk), .val (.int (3 : Int32)), .val (.ref b69), .val (.int (Int32.ofNat n3)), .val (.ref rr)] [(.ref rr)]))
                refine OwnGo.fwd (fun tq' kq' => own_len X78 hx hZ eh78.symm V_rr (g := (mkF m 168 #[.val (.int pa), .val (.int pb), .val (.int pc), .val (.int pd), .val (.int pk), .val (.int (3 : Int32)), .val (.ref b69), .val (.int (Int32.ofNat n3)), .val (.ref rr)] [(.ref rr)])) rfl rfl (hb hby at_168) tq' kq') ?_
                show OwnGo _ _ _ _ (T78.setTop (mkF m 169 #[.val (.int pa), .val (.int pb), .val (.int pc), .val (.int pd), .val (.int pk), .val (.int (3 : Int32)), .val (.ref b69), .val (.int (Int32.ofNat n3)), .val (.ref rr)] [(.int (Int32.ofNat n3))]))
                refine OwnGo.fwd (fun tq' kq' => XS.iload X78.here hx rfl (hb hby at_169) rfl kq') ?_
                show OwnGo _ _ _ _ (T78.setTop (mkF m 171 #[.val (.int pa), .val (.int pb), .val (.int pc), .val (.int pd), .val (.int pk), .val (.int (3 : Int32)), .val (.ref b69), .val (.int (Int32.ofNat n3)), .val (.ref rr)] [(.int (Int32.ofNat n3)), (.int (Int32.ofNat n3))]))
                have hc171_79 : (n3 : Int) = (n3 : Int) := rfl
                refine OwnGo.fwd (fun tq' kq' => XS.icmpYes X78.here hx rfl (pc0 := 171) (pc' := 176) rfl (hb hby at_171) rfl (own_beq (own_ofNat (by omega)) (own_ofNat (by omega)) hc171_79).1 (by decide) (by decide) kq') ?_
                show OwnGo _ _ _ _ (T78.setTop (mkF m 176 #[.val (.int pa), .val (.int pb), .val (.int pc), .val (.int pd), .val (.int pk), .val (.int (3 : Int32)), .val (.ref b69), .val (.int (Int32.ofNat n3)), .val (.ref rr)] []))
                refine OwnGo.fwd (fun tq' kq' => XS.iload X78.here hx rfl (hb hby at_176) rfl kq') ?_
                show OwnGo _ _ _ _ (T78.setTop (mkF m 178 #[.val (.int pa), .val (.int pb), .val (.int pc), .val (.int pd), .val (.int pk), .val (.int (3 : Int32)), .val (.ref b69), .val (.int (Int32.ofNat n3)), .val (.ref rr)] [(.int (3 : Int32))]))
                refine OwnGo.fwd (fun tq' kq' => XS.iconst X78.here hx rfl (hb hby at_178) kq') ?_
                show OwnGo _ _ _ _ (T78.setTop (mkF m 179 #[.val (.int pa), .val (.int pb), .val (.int pc), .val (.int pd), .val (.int pk), .val (.int (3 : Int32)), .val (.ref b69), .val (.int (Int32.ofNat n3)), .val (.ref rr)] [(.int (1 : Int32)), (.int (3 : Int32))]))
                have hc179_80 : ¬ ((3 : Int) < (1 : Int)) := by decide
                refine OwnGo.fwd (fun tq' kq' => XS.icmpNo X78.here hx rfl (hb hby at_179) rfl (own_bnlt (by decide) (by decide) hc179_80).1 kq') ?_
                show OwnGo _ _ _ _ (T78.setTop (mkF m 182 #[.val (.int pa), .val (.int pb), .val (.int pc), .val (.int pd), .val (.int pk), .val (.int (3 : Int32)), .val (.ref b69), .val (.int (Int32.ofNat n3)), .val (.ref rr)] []))
                refine OwnGo.fwd (fun tq' kq' => XS.aload X78.here hx rfl (hb hby at_182) rfl rfl kq') ?_
                show OwnGo _ _ _ _ (T78.setTop (mkF m 184 #[.val (.int pa), .val (.int pb), .val (.int pc), .val (.int pd), .val (.int pk), .val (.int (3 : Int32)), .val (.ref b69), .val (.int (Int32.ofNat n3)), .val (.ref rr)] [(.ref rr)]))
                refine OwnGo.fwd (fun tq' kq' => XS.iloadN X78.here hx rfl (hb hby at_184) rfl kq') ?_
                show OwnGo _ _ _ _ (T78.setTop (mkF m 185 #[.val (.int pa), .val (.int pb), .val (.int pc), .val (.int pd), .val (.int pk), .val (.int (3 : Int32)), .val (.ref b69), .val (.int (Int32.ofNat n3)), .val (.ref rr)] [(.int pa), (.ref rr)]))
                obtain ⟨_, _, ⟨T81, L81, k81, n81⟩, -, X81, ⟨Lc81, hQ81, l81, y81, z81⟩, st81⟩ := Jvm.LawKit.callS X78 hx (y := (⟨"com/example/rolestack/rolestack/NumbersByIdIdsPinLaw", "has", "([II)Z"⟩ : MethodName)) hown (mvT hZ (hw _ (List.mem_of_getElem? (i := 39) rfl))) (mvT hZ (hw _ (List.mem_of_getElem? (i := 40) rfl))) (mvT hZ (hw _ (List.mem_of_getElem? (i := 41) rfl))) (mvT hZ (hw _ (List.mem_of_getElem? (i := 42) rfl))) (by decide) (backOf (W := 0) (rm7 l Z a0 hw [] rr n3 uu pa h78 n0 Zs V_rr (by omega) (by
                  obtain ⟨q, hq, e⟩ := ((HP3.2.2 pa nz_pa).trans (or_congr ((HP2.2.2 pa nz_pa).trans (or_congr ((HP1.2.2 pa nz_pa).trans (or_congr (iff_of_false (own_pr0 nz_pa) id) Iff.rfl)) Iff.rfl)) Iff.rfl)).mpr (by simp)
                  refine ⟨own_cnt f3 q, ?_, ?_⟩
                  · rw [← HP3.1.1]; exact own_cnt_lt f3 hq (by rw [e]; exact nz_pa)
                  · rw [huu q hq (by rw [e]; exact nz_pa)]; exact e)) hZ (hw _ (List.mem_of_getElem? (i := 42) rfl)) (hw _ (List.mem_of_getElem? (i := 41) rfl)) (by decide) (by decide)) (g := (mkF m 185 #[.val (.int pa), .val (.int pb), .val (.int pc), .val (.int pd), .val (.int pk), .val (.int (3 : Int32)), .val (.ref b69), .val (.int (Int32.ofNat n3)), .val (.ref rr)] [(.int pa), (.ref rr)])) rfl (by rw [hml]; rfl) (argsL := [(.ref rr), (.int pa)]) (rest := []) (lenOf pd_5 rfl) rfl (by show 2 * 0 + _ ≤ _; exact Nat.le_of_eq rfl) (hb hby at_185) (fun _ _ => ⟨rfl, eh78.symm, (by decide : 4 + 0 ≤ _), (by decide : 40 + 0 ≤ _)⟩)
                dsimp only [Pt.U, Pt.locs, Pt.cells, Pt.slots] at X81 l81 y81 z81 st81 hQ81
                subst l81 y81 z81
                obtain ⟨rfl, N81q, e81⟩ := hQ81
                have N := Fr.app N N81q
                refine OwnGo.fwd st81 ?_
                show OwnGo _ _ _ _ (T81.setTop (mkF m 188 #[.val (.int pa), .val (.int pb), .val (.int pc), .val (.int pd), .val (.int pk), .val (.int (3 : Int32)), .val (.ref b69), .val (.int (Int32.ofNat n3)), .val (.ref rr)] [(.int (1 : Int32))]))
                have hc188_82 : ¬ ((1 : Int) = (0 : Int)) := by decide
                refine OwnGo.fwd (fun tq' kq' => XS.ifYes X81.here hx rfl (pc0 := 188) (pc' := 193) rfl (hb hby at_188) rfl ((if0 _ _).trans (own_bneq (by decide) (by decide) hc188_82).2) (by decide) (by decide) kq') ?_
                show OwnGo _ _ _ _ (T81.setTop (mkF m 193 #[.val (.int pa), .val (.int pb), .val (.int pc), .val (.int pd), .val (.int pk), .val (.int (3 : Int32)), .val (.ref b69), .val (.int (Int32.ofNat n3)), .val (.ref rr)] []))
                refine OwnGo.fwd (fun tq' kq' => XS.iload X81.here hx rfl (hb hby at_193) rfl kq') ?_
                show OwnGo _ _ _ _ (T81.setTop (mkF m 195 #[.val (.int pa), .val (.int pb), .val (.int pc), .val (.int pd), .val (.int pk), .val (.int (3 : Int32)), .val (.ref b69), .val (.int (Int32.ofNat n3)), .val (.ref rr)] [(.int (3 : Int32))]))
                refine OwnGo.fwd (fun tq' kq' => XS.iconst X81.here hx rfl (hb hby at_195) kq') ?_
                show OwnGo _ _ _ _ (T81.setTop (mkF m 196 #[.val (.int pa), .val (.int pb), .val (.int pc), .val (.int pd), .val (.int pk), .val (.int (3 : Int32)), .val (.ref b69), .val (.int (Int32.ofNat n3)), .val (.ref rr)] [(.int (2 : Int32)), (.int (3 : Int32))]))
                have hc196_83 : ¬ ((3 : Int) < (2 : Int)) := by decide
                refine OwnGo.fwd (fun tq' kq' => XS.icmpNo X81.here hx rfl (hb hby at_196) rfl (own_bnlt (by decide) (by decide) hc196_83).1 kq') ?_
                show OwnGo _ _ _ _ (T81.setTop (mkF m 199 #[.val (.int pa), .val (.int pb), .val (.int pc), .val (.int pd), .val (.int pk), .val (.int (3 : Int32)), .val (.ref b69), .val (.int (Int32.ofNat n3)), .val (.ref rr)] []))
                refine OwnGo.fwd (fun tq' kq' => XS.aload X81.here hx rfl (hb hby at_199) rfl rfl kq') ?_
                show OwnGo _ _ _ _ (T81.setTop (mkF m 201 #[.val (.int pa), .val (.int pb), .val (.int pc), .val (.int pd), .val (.int pk), .val (.int (3 : Int32)), .val (.ref b69), .val (.int (Int32.ofNat n3)), .val (.ref rr)] [(.ref rr)]))
                refine OwnGo.fwd (fun tq' kq' => XS.iloadN X81.here hx rfl (hb hby at_201) rfl kq') ?_
                show OwnGo _ _ _ _ (T81.setTop (mkF m 202 #[.val (.int pa), .val (.int pb), .val (.int pc), .val (.int pd), .val (.int pk), .val (.int (3 : Int32)), .val (.ref b69), .val (.int (Int32.ofNat n3)), .val (.ref rr)] [(.int pb), (.ref rr)]))
                obtain ⟨_, _, ⟨T84, L84, k84, n84⟩, -, X84, ⟨Lc84, hQ84, l84, y84, z84⟩, st84⟩ := Jvm.LawKit.callS X81 hx (y := (⟨"com/example/rolestack/rolestack/NumbersByIdIdsPinLaw", "has", "([II)Z"⟩ : MethodName)) hown (mvT hZ (hw _ (List.mem_of_getElem? (i := 39) rfl))) (mvT hZ (hw _ (List.mem_of_getElem? (i := 40) rfl))) (mvT hZ (hw _ (List.mem_of_getElem? (i := 41) rfl))) (mvT hZ (hw _ (List.mem_of_getElem? (i := 42) rfl))) (by decide) (backOf (W := 0) (rm7 l Z a0 hw [] rr n3 uu pb h78 n0 Zs V_rr (by omega) (by
                  obtain ⟨q, hq, e⟩ := ((HP3.2.2 pb nz_pb).trans (or_congr ((HP2.2.2 pb nz_pb).trans (or_congr ((HP1.2.2 pb nz_pb).trans (or_congr (iff_of_false (own_pr0 nz_pb) id) Iff.rfl)) Iff.rfl)) Iff.rfl)).mpr (by simp)
                  refine ⟨own_cnt f3 q, ?_, ?_⟩
                  · rw [← HP3.1.1]; exact own_cnt_lt f3 hq (by rw [e]; exact nz_pb)
                  · rw [huu q hq (by rw [e]; exact nz_pb)]; exact e)) hZ (hw _ (List.mem_of_getElem? (i := 42) rfl)) (hw _ (List.mem_of_getElem? (i := 41) rfl)) (by decide) (by decide)) (g := (mkF m 202 #[.val (.int pa), .val (.int pb), .val (.int pc), .val (.int pd), .val (.int pk), .val (.int (3 : Int32)), .val (.ref b69), .val (.int (Int32.ofNat n3)), .val (.ref rr)] [(.int pb), (.ref rr)])) rfl (by rw [hml]; rfl) (argsL := [(.ref rr), (.int pb)]) (rest := []) (lenOf pd_5 rfl) rfl (by show 2 * 0 + _ ≤ _; exact Nat.le_of_eq rfl) (hb hby at_202) (fun _ _ => ⟨rfl, e81, (by decide : 4 + 0 ≤ _), (by decide : 40 + 0 ≤ _)⟩)
                dsimp only [Pt.U, Pt.locs, Pt.cells, Pt.slots] at X84 l84 y84 z84 st84 hQ84
                subst l84 y84 z84
                obtain ⟨rfl, N84q, e84⟩ := hQ84
                have N := Fr.app N N84q
                refine OwnGo.fwd st84 ?_
                show OwnGo _ _ _ _ (T84.setTop (mkF m 205 #[.val (.int pa), .val (.int pb), .val (.int pc), .val (.int pd), .val (.int pk), .val (.int (3 : Int32)), .val (.ref b69), .val (.int (Int32.ofNat n3)), .val (.ref rr)] [(.int (1 : Int32))]))
                have hc205_85 : ¬ ((1 : Int) = (0 : Int)) := by decide
                refine OwnGo.fwd (fun tq' kq' => XS.ifYes X84.here hx rfl (pc0 := 205) (pc' := 210) rfl (hb hby at_205) rfl ((if0 _ _).trans (own_bneq (by decide) (by decide) hc205_85).2) (by decide) (by decide) kq') ?_
                show OwnGo _ _ _ _ (T84.setTop (mkF m 210 #[.val (.int pa), .val (.int pb), .val (.int pc), .val (.int pd), .val (.int pk), .val (.int (3 : Int32)), .val (.ref b69), .val (.int (Int32.ofNat n3)), .val (.ref rr)] []))
                refine OwnGo.fwd (fun tq' kq' => XS.iload X84.here hx rfl (hb hby at_210) rfl kq') ?_
                show OwnGo _ _ _ _ (T84.setTop (mkF m 212 #[.val (.int pa), .val (.int pb), .val (.int pc), .val (.int pd), .val (.int pk), .val (.int (3 : Int32)), .val (.ref b69), .val (.int (Int32.ofNat n3)), .val (.ref rr)] [(.int (3 : Int32))]))
                refine OwnGo.fwd (fun tq' kq' => XS.iconst X84.here hx rfl (hb hby at_212) kq') ?_
                show OwnGo _ _ _ _ (T84.setTop (mkF m 213 #[.val (.int pa), .val (.int pb), .val (.int pc), .val (.int pd), .val (.int pk), .val (.int (3 : Int32)), .val (.ref b69), .val (.int (Int32.ofNat n3)), .val (.ref rr)] [(.int (3 : Int32)), (.int (3 : Int32))]))
                have hc213_86 : ¬ ((3 : Int) < (3 : Int)) := by decide
                refine OwnGo.fwd (fun tq' kq' => XS.icmpNo X84.here hx rfl (hb hby at_213) rfl (own_bnlt (by decide) (by decide) hc213_86).1 kq') ?_
                show OwnGo _ _ _ _ (T84.setTop (mkF m 216 #[.val (.int pa), .val (.int pb), .val (.int pc), .val (.int pd), .val (.int pk), .val (.int (3 : Int32)), .val (.ref b69), .val (.int (Int32.ofNat n3)), .val (.ref rr)] []))
                refine OwnGo.fwd (fun tq' kq' => XS.aload X84.here hx rfl (hb hby at_216) rfl rfl kq') ?_
                show OwnGo _ _ _ _ (T84.setTop (mkF m 218 #[.val (.int pa), .val (.int pb), .val (.int pc), .val (.int pd), .val (.int pk), .val (.int (3 : Int32)), .val (.ref b69), .val (.int (Int32.ofNat n3)), .val (.ref rr)] [(.ref rr)]))
                refine OwnGo.fwd (fun tq' kq' => XS.iloadN X84.here hx rfl (hb hby at_218) rfl kq') ?_
                show OwnGo _ _ _ _ (T84.setTop (mkF m 219 #[.val (.int pa), .val (.int pb), .val (.int pc), .val (.int pd), .val (.int pk), .val (.int (3 : Int32)), .val (.ref b69), .val (.int (Int32.ofNat n3)), .val (.ref rr)] [(.int pc), (.ref rr)]))
                obtain ⟨_, _, ⟨T87, L87, k87, n87⟩, -, X87, ⟨Lc87, hQ87, l87, y87, z87⟩, st87⟩ := Jvm.LawKit.callS X84 hx (y := (⟨"com/example/rolestack/rolestack/NumbersByIdIdsPinLaw", "has", "([II)Z"⟩ : MethodName)) hown (mvT hZ (hw _ (List.mem_of_getElem? (i := 39) rfl))) (mvT hZ (hw _ (List.mem_of_getElem? (i := 40) rfl))) (mvT hZ (hw _ (List.mem_of_getElem? (i := 41) rfl))) (mvT hZ (hw _ (List.mem_of_getElem? (i := 42) rfl))) (by decide) (backOf (W := 0) (rm7 l Z a0 hw [] rr n3 uu pc h78 n0 Zs V_rr (by omega) (by
                  obtain ⟨q, hq, e⟩ := ((HP3.2.2 pc nz_pc).trans (or_congr ((HP2.2.2 pc nz_pc).trans (or_congr ((HP1.2.2 pc nz_pc).trans (or_congr (iff_of_false (own_pr0 nz_pc) id) Iff.rfl)) Iff.rfl)) Iff.rfl)).mpr (by simp)
                  refine ⟨own_cnt f3 q, ?_, ?_⟩
                  · rw [← HP3.1.1]; exact own_cnt_lt f3 hq (by rw [e]; exact nz_pc)
                  · rw [huu q hq (by rw [e]; exact nz_pc)]; exact e)) hZ (hw _ (List.mem_of_getElem? (i := 42) rfl)) (hw _ (List.mem_of_getElem? (i := 41) rfl)) (by decide) (by decide)) (g := (mkF m 219 #[.val (.int pa), .val (.int pb), .val (.int pc), .val (.int pd), .val (.int pk), .val (.int (3 : Int32)), .val (.ref b69), .val (.int (Int32.ofNat n3)), .val (.ref rr)] [(.int pc), (.ref rr)])) rfl (by rw [hml]; rfl) (argsL := [(.ref rr), (.int pc)]) (rest := []) (lenOf pd_5 rfl) rfl (by show 2 * 0 + _ ≤ _; exact Nat.le_of_eq rfl) (hb hby at_219) (fun _ _ => ⟨rfl, e84, (by decide : 4 + 0 ≤ _), (by decide : 40 + 0 ≤ _)⟩)
                dsimp only [Pt.U, Pt.locs, Pt.cells, Pt.slots] at X87 l87 y87 z87 st87 hQ87
                subst l87 y87 z87
                obtain ⟨rfl, N87q, e87⟩ := hQ87
                have N := Fr.app N N87q
                refine OwnGo.fwd st87 ?_
                show OwnGo _ _ _ _ (T87.setTop (mkF m 222 #[.val (.int pa), .val (.int pb), .val (.int pc), .val (.int pd), .val (.int pk), .val (.int (3 : Int32)), .val (.ref b69), .val (.int (Int32.ofNat n3)), .val (.ref rr)] [(.int (1 : Int32))]))
                have hc222_88 : ¬ ((1 : Int) = (0 : Int)) := by decide
                refine OwnGo.fwd (fun tq' kq' => XS.ifYes X87.here hx rfl (pc0 := 222) (pc' := 227) rfl (hb hby at_222) rfl ((if0 _ _).trans (own_bneq (by decide) (by decide) hc222_88).2) (by decide) (by decide) kq') ?_
                show OwnGo _ _ _ _ (T87.setTop (mkF m 227 #[.val (.int pa), .val (.int pb), .val (.int pc), .val (.int pd), .val (.int pk), .val (.int (3 : Int32)), .val (.ref b69), .val (.int (Int32.ofNat n3)), .val (.ref rr)] []))
                refine OwnGo.fwd (fun tq' kq' => XS.iload X87.here hx rfl (hb hby at_227) rfl kq') ?_
                show OwnGo _ _ _ _ (T87.setTop (mkF m 229 #[.val (.int pa), .val (.int pb), .val (.int pc), .val (.int pd), .val (.int pk), .val (.int (3 : Int32)), .val (.ref b69), .val (.int (Int32.ofNat n3)), .val (.ref rr)] [(.int (3 : Int32))]))
                refine OwnGo.fwd (fun tq' kq' => XS.iconst X87.here hx rfl (hb hby at_229) kq') ?_
                show OwnGo _ _ _ _ (T87.setTop (mkF m 230 #[.val (.int pa), .val (.int pb), .val (.int pc), .val (.int pd), .val (.int pk), .val (.int (3 : Int32)), .val (.ref b69), .val (.int (Int32.ofNat n3)), .val (.ref rr)] [(.int (4 : Int32)), (.int (3 : Int32))]))
                have hc230_89 : (3 : Int) < (4 : Int) := by decide
                refine OwnGo.fwd (fun tq' kq' => XS.icmpYes X87.here hx rfl (pc0 := 230) (pc' := 244) rfl (hb hby at_230) rfl (own_blt (by decide) (by decide) hc230_89).1 (by decide) (by decide) kq') ?_
                show OwnGo _ _ _ _ (T87.setTop (mkF m 244 #[.val (.int pa), .val (.int pb), .val (.int pc), .val (.int pd), .val (.int pk), .val (.int (3 : Int32)), .val (.ref b69), .val (.int (Int32.ofNat n3)), .val (.ref rr)] []))
                refine OwnGo.fwd (fun tq' kq' => XS.iconst X87.here hx rfl (hb hby at_244) kq') ?_
                show OwnGo _ _ _ _ (T87.setTop (mkF m 245 #[.val (.int pa), .val (.int pb), .val (.int pc), .val (.int pd), .val (.int pk), .val (.int (3 : Int32)), .val (.ref b69), .val (.int (Int32.ofNat n3)), .val (.ref rr)] [(.int (1 : Int32))]))
                exact own_retZ X87 hlk hx Bd.returns (hb hby at_245) (by decide) (by decide) e87 ⟨rfl, N⟩
              refine OwnGo.fwd (fun tq' kq' => XS.iloadN X76.here hx rfl (hb hby at_115) rfl kq') ?_
              show OwnGo _ _ _ _ (T76.setTop (mkF m 116 #[.val (.int pa), .val (.int pb), .val (.int pc), .val (.int pd), .val (.int pk), .val (.int (3 : Int32)), .val (.ref b69), .val (.int (Int32.ofNat n2)), .unset] [(.int pc)]))
              refine OwnGo.fwd (fun tq' kq' => XS.iloadN X76.here hx rfl (hb hby at_116) rfl kq') ?_
              show OwnGo _ _ _ _ (T76.setTop (mkF m 117 #[.val (.int pa), .val (.int pb), .val (.int pc), .val (.int pd), .val (.int pk), .val (.int (3 : Int32)), .val (.ref b69), .val (.int (Int32.ofNat n2)), .unset] [(.int pa), (.int pc)]))
              by_cases hc117_90 : pc.toInt = pa.toInt
              · refine OwnGo.fwd (fun tq' kq' => XS.icmpYes X76.here hx rfl (pc0 := 117) (pc' := 128) rfl (hb hby at_117) rfl (own_beq rfl rfl hc117_90).1 (by decide) (by decide) kq') ?_
                show OwnGo _ _ _ _ (T76.setTop (mkF m 128 #[.val (.int pa), .val (.int pb), .val (.int pc), .val (.int pd), .val (.int pk), .val (.int (3 : Int32)), .val (.ref b69), .val (.int (Int32.ofNat n2)), .unset] []))
                have pq := ((HP2.2.2 pc nz_pc).trans (or_congr ((HP1.2.2 pc nz_pc).trans (or_congr (iff_of_false (own_pr0 nz_pc) id) Iff.rfl)) Iff.rfl))
                have d_hc117_90 := own_ei hc117_90
                have hs3 : n3 = n2 := by
                  rcases HP3.2.1 with q | q
                  · exact q.2
                  · exact absurd (pq.mpr (by simp [*])) q.1
                exact J128 _ (by rw [hs3])
              · refine OwnGo.fwd (fun tq' kq' => XS.icmpNo X76.here hx rfl (hb hby at_117) rfl (own_bneq rfl rfl hc117_90).1 kq') ?_
                show OwnGo _ _ _ _ (T76.setTop (mkF m 120 #[.val (.int pa), .val (.int pb), .val (.int pc), .val (.int pd), .val (.int pk), .val (.int (3 : Int32)), .val (.ref b69), .val (.int (Int32.ofNat n2)), .unset] []))
                refine OwnGo.fwd (fun tq' kq' => XS.iloadN X76.here hx rfl (hb hby at_120) rfl kq') ?_
                show OwnGo _ _ _ _ (T76.setTop (mkF m 121 #[.val (.int pa), .val (.int pb), .val (.int pc), .val (.int pd), .val (.int pk), .val (.int (3 : Int32)), .val (.ref b69), .val (.int (Int32.ofNat n2)), .unset] [(.int pc)]))
                refine OwnGo.fwd (fun tq' kq' => XS.iloadN X76.here hx rfl (hb hby at_121) rfl kq') ?_
                show OwnGo _ _ _ _ (T76.setTop (mkF m 122 #[.val (.int pa), .val (.int pb), .val (.int pc), .val (.int pd), .val (.int pk), .val (.int (3 : Int32)), .val (.ref b69), .val (.int (Int32.ofNat n2)), .unset] [(.int pb), (.int pc)]))
                by_cases hc122_91 : pc.toInt = pb.toInt
                · refine OwnGo.fwd (fun tq' kq' => XS.icmpYes X76.here hx rfl (pc0 := 122) (pc' := 128) rfl (hb hby at_122) rfl (own_beq rfl rfl hc122_91).1 (by decide) (by decide) kq') ?_
                  show OwnGo _ _ _ _ (T76.setTop (mkF m 128 #[.val (.int pa), .val (.int pb), .val (.int pc), .val (.int pd), .val (.int pk), .val (.int (3 : Int32)), .val (.ref b69), .val (.int (Int32.ofNat n2)), .unset] []))
                  have pq := ((HP2.2.2 pc nz_pc).trans (or_congr ((HP1.2.2 pc nz_pc).trans (or_congr (iff_of_false (own_pr0 nz_pc) id) Iff.rfl)) Iff.rfl))
                  have d_hc117_90 := own_ni hc117_90
                  have d_hc122_91 := own_ei hc122_91
                  have hs3 : n3 = n2 := by
                    rcases HP3.2.1 with q | q
                    · exact q.2
                    · exact absurd (pq.mpr (by simp [*])) q.1
                  exact J128 _ (by rw [hs3])
                · refine OwnGo.fwd (fun tq' kq' => XS.icmpNo X76.here hx rfl (hb hby at_122) rfl (own_bneq rfl rfl hc122_91).1 kq') ?_
                  show OwnGo _ _ _ _ (T76.setTop (mkF m 125 #[.val (.int pa), .val (.int pb), .val (.int pc), .val (.int pd), .val (.int pk), .val (.int (3 : Int32)), .val (.ref b69), .val (.int (Int32.ofNat n2)), .unset] []))
                  refine OwnGo.fwd (fun tq' kq' => XS.iinc X76.here hx rfl (hb hby at_125) rfl (l' := #[.val (.int pa), .val (.int pb), .val (.int pc), .val (.int pd), .val (.int pk), .val (.int (3 : Int32)), .val (.ref b69), .val (.int ((Int32.ofNat n2) + (1 : Int32))), .unset]) rfl kq') ?_
                  show OwnGo _ _ _ _ (T76.setTop (mkF m 128 #[.val (.int pa), .val (.int pb), .val (.int pc), .val (.int pd), .val (.int pk), .val (.int (3 : Int32)), .val (.ref b69), .val (.int ((Int32.ofNat n2) + (1 : Int32))), .unset] []))
                  have pq := ((HP2.2.2 pc nz_pc).trans (or_congr ((HP1.2.2 pc nz_pc).trans (or_congr (iff_of_false (own_pr0 nz_pc) id) Iff.rfl)) Iff.rfl))
                  have d_hc117_90 := own_ni hc117_90
                  have d_hc122_91 := own_ni hc122_91
                  have hs3 : n3 = n2 + 1 := by
                    rcases HP3.2.1 with q | q
                    · exact absurd (pq.mp q.1) (by simp [*])
                    · exact q.2
                  exact J128 _ (by rw [hs3]; first | exact own_ofNatS _ | rfl)
            refine OwnGo.fwd (fun tq' kq' => XS.iloadN X74.here hx rfl (hb hby at_94) rfl kq') ?_
            show OwnGo _ _ _ _ (T74.setTop (mkF m 95 #[.val (.int pa), .val (.int pb), .val (.int pc), .val (.int pd), .val (.int pk), .val (.int (3 : Int32)), .val (.ref b69), .val (.int (Int32.ofNat n1)), .unset] [(.int pb)]))
            refine OwnGo.fwd (fun tq' kq' => XS.iloadN X74.here hx rfl (hb hby at_95) rfl kq') ?_
            show OwnGo _ _ _ _ (T74.setTop (mkF m 96 #[.val (.int pa), .val (.int pb), .val (.int pc), .val (.int pd), .val (.int pk), .val (.int (3 : Int32)), .val (.ref b69), .val (.int (Int32.ofNat n1)), .unset] [(.int pa), (.int pb)]))
            by_cases hc96_92 : pb.toInt = pa.toInt
            · refine OwnGo.fwd (fun tq' kq' => XS.icmpYes X74.here hx rfl (pc0 := 96) (pc' := 102) rfl (hb hby at_96) rfl (own_beq rfl rfl hc96_92).1 (by decide) (by decide) kq') ?_
              show OwnGo _ _ _ _ (T74.setTop (mkF m 102 #[.val (.int pa), .val (.int pb), .val (.int pc), .val (.int pd), .val (.int pk), .val (.int (3 : Int32)), .val (.ref b69), .val (.int (Int32.ofNat n1)), .unset] []))
              have pq := ((HP1.2.2 pb nz_pb).trans (or_congr (iff_of_false (own_pr0 nz_pb) id) Iff.rfl))
              have d_hc96_92 := own_ei hc96_92
              have hs2 : n2 = n1 := by
                rcases HP2.2.1 with q | q
                · exact q.2
                · exact absurd (pq.mpr (by simp [*])) q.1
              exact J102 _ (by rw [hs2])
            · refine OwnGo.fwd (fun tq' kq' => XS.icmpNo X74.here hx rfl (hb hby at_96) rfl (own_bneq rfl rfl hc96_92).1 kq') ?_
              show OwnGo _ _ _ _ (T74.setTop (mkF m 99 #[.val (.int pa), .val (.int pb), .val (.int pc), .val (.int pd), .val (.int pk), .val (.int (3 : Int32)), .val (.ref b69), .val (.int (Int32.ofNat n1)), .unset] []))
              refine OwnGo.fwd (fun tq' kq' => XS.iinc X74.here hx rfl (hb hby at_99) rfl (l' := #[.val (.int pa), .val (.int pb), .val (.int pc), .val (.int pd), .val (.int pk), .val (.int (3 : Int32)), .val (.ref b69), .val (.int ((Int32.ofNat n1) + (1 : Int32))), .unset]) rfl kq') ?_
              show OwnGo _ _ _ _ (T74.setTop (mkF m 102 #[.val (.int pa), .val (.int pb), .val (.int pc), .val (.int pd), .val (.int pk), .val (.int (3 : Int32)), .val (.ref b69), .val (.int ((Int32.ofNat n1) + (1 : Int32))), .unset] []))
              have pq := ((HP1.2.2 pb nz_pb).trans (or_congr (iff_of_false (own_pr0 nz_pb) id) Iff.rfl))
              have d_hc96_92 := own_ni hc96_92
              have hs2 : n2 = n1 + 1 := by
                rcases HP2.2.1 with q | q
                · exact absurd (pq.mp q.1) (by simp [*])
                · exact q.2
              exact J102 _ (by rw [hs2]; first | exact own_ofNatS _ | rfl)
          refine OwnGo.fwd (fun tq' kq' => XS.iinc X72.here hx rfl (hb hby at_78) rfl (l' := #[.val (.int pa), .val (.int pb), .val (.int pc), .val (.int pd), .val (.int pk), .val (.int (3 : Int32)), .val (.ref b69), .val (.int (1 : Int32)), .unset]) rfl kq') ?_
          show OwnGo _ _ _ _ (T72.setTop (mkF m 81 #[.val (.int pa), .val (.int pb), .val (.int pc), .val (.int pd), .val (.int pk), .val (.int (3 : Int32)), .val (.ref b69), .val (.int (1 : Int32)), .unset] []))
          have pq := (iff_of_false (own_pr0 nz_pa) id)
          have hs1 : n1 = 0 + 1 := by
            rcases HP1.2.1 with q | q
            · exact absurd (pq.mp q.1) (by simp [*])
            · exact q.2
          exact J81 _ (by rw [hs1]; first | exact own_ofNatS _ | rfl)
  · show OwnGo _ _ _ _ (s₁.setTop (mkF m 7 #[.val (.int pa), .val (.int pb), .val (.int pc), .val (.int pd), .val (.int pk), .unset, .unset, .unset, .unset] [(.int (4 : Int32))]))
    refine OwnGo.fwd (fun tq' kq' => XS.istore X0.here hx rfl (hb hby at_7) rfl (l' := #[.val (.int pa), .val (.int pb), .val (.int pc), .val (.int pd), .val (.int pk), .val (.int (4 : Int32)), .unset, .unset, .unset]) rfl kq') ?_
    show OwnGo _ _ _ _ (s₁.setTop (mkF m 9 #[.val (.int pa), .val (.int pb), .val (.int pc), .val (.int pd), .val (.int pk), .val (.int (4 : Int32)), .unset, .unset, .unset] []))
    refine OwnGo.fwd (fun tq' kq' => XS.iload X0.here hx rfl (hb hby at_9) rfl kq') ?_
    show OwnGo _ _ _ _ (s₁.setTop (mkF m 11 #[.val (.int pa), .val (.int pb), .val (.int pc), .val (.int pd), .val (.int pk), .val (.int (4 : Int32)), .unset, .unset, .unset] [(.int (4 : Int32))]))
    refine OwnGo.fwd (fun tq' kq' => XS.iconst X0.here hx rfl (hb hby at_11) kq') ?_
    show OwnGo _ _ _ _ (s₁.setTop (mkF m 12 #[.val (.int pa), .val (.int pb), .val (.int pc), .val (.int pd), .val (.int pk), .val (.int (4 : Int32)), .unset, .unset, .unset] [(.int (1 : Int32)), (.int (4 : Int32))]))
    have hc12_93 : ¬ ((4 : Int) < (1 : Int)) := by decide
    refine OwnGo.fwd (fun tq' kq' => XS.icmpNo X0.here hx rfl (hb hby at_12) rfl (own_bnlt (by decide) (by decide) hc12_93).1 kq') ?_
    show OwnGo _ _ _ _ (s₁.setTop (mkF m 15 #[.val (.int pa), .val (.int pb), .val (.int pc), .val (.int pd), .val (.int pk), .val (.int (4 : Int32)), .unset, .unset, .unset] []))
    refine OwnGo.fwd (fun tq' kq' => XS.iloadN X0.here hx rfl (hb hby at_15) rfl kq') ?_
    show OwnGo _ _ _ _ (s₁.setTop (mkF m 16 #[.val (.int pa), .val (.int pb), .val (.int pc), .val (.int pd), .val (.int pk), .val (.int (4 : Int32)), .unset, .unset, .unset] [(.int pa)]))
    by_cases hc16_94 : pa.toInt = 0
    · refine OwnGo.fwd (fun tq' kq' => XS.ifYes X0.here hx rfl (pc0 := 16) (pc' := 49) rfl (hb hby at_16) rfl ((if0 _ _).trans (own_beq rfl (by decide) hc16_94).1) (by decide) (by decide) kq') ?_
      show OwnGo _ _ _ _ (s₁.setTop (mkF m 49 #[.val (.int pa), .val (.int pb), .val (.int pc), .val (.int pd), .val (.int pk), .val (.int (4 : Int32)), .unset, .unset, .unset] []))
      refine OwnGo.fwd (fun tq' kq' => XS.iconst X0.here hx rfl (hb hby at_49) kq') ?_
      show OwnGo _ _ _ _ (s₁.setTop (mkF m 50 #[.val (.int pa), .val (.int pb), .val (.int pc), .val (.int pd), .val (.int pk), .val (.int (4 : Int32)), .unset, .unset, .unset] [(.int (1 : Int32))]))
      exact own_retZ X0 hlk hx Bd.returns (hb hby at_50) (by decide) (by decide) e0 ⟨rfl, N⟩
    · refine OwnGo.fwd (fun tq' kq' => XS.ifNo X0.here hx rfl (hb hby at_16) rfl ((if0 _ _).trans (own_bneq rfl (by decide) hc16_94).1) kq') ?_
      show OwnGo _ _ _ _ (s₁.setTop (mkF m 19 #[.val (.int pa), .val (.int pb), .val (.int pc), .val (.int pd), .val (.int pk), .val (.int (4 : Int32)), .unset, .unset, .unset] []))
      refine OwnGo.fwd (fun tq' kq' => XS.iload X0.here hx rfl (hb hby at_19) rfl kq') ?_
      show OwnGo _ _ _ _ (s₁.setTop (mkF m 21 #[.val (.int pa), .val (.int pb), .val (.int pc), .val (.int pd), .val (.int pk), .val (.int (4 : Int32)), .unset, .unset, .unset] [(.int (4 : Int32))]))
      refine OwnGo.fwd (fun tq' kq' => XS.iconst X0.here hx rfl (hb hby at_21) kq') ?_
      show OwnGo _ _ _ _ (s₁.setTop (mkF m 22 #[.val (.int pa), .val (.int pb), .val (.int pc), .val (.int pd), .val (.int pk), .val (.int (4 : Int32)), .unset, .unset, .unset] [(.int (2 : Int32)), (.int (4 : Int32))]))
      have hc22_95 : ¬ ((4 : Int) < (2 : Int)) := by decide
      refine OwnGo.fwd (fun tq' kq' => XS.icmpNo X0.here hx rfl (hb hby at_22) rfl (own_bnlt (by decide) (by decide) hc22_95).1 kq') ?_
      show OwnGo _ _ _ _ (s₁.setTop (mkF m 25 #[.val (.int pa), .val (.int pb), .val (.int pc), .val (.int pd), .val (.int pk), .val (.int (4 : Int32)), .unset, .unset, .unset] []))
      refine OwnGo.fwd (fun tq' kq' => XS.iloadN X0.here hx rfl (hb hby at_25) rfl kq') ?_
      show OwnGo _ _ _ _ (s₁.setTop (mkF m 26 #[.val (.int pa), .val (.int pb), .val (.int pc), .val (.int pd), .val (.int pk), .val (.int (4 : Int32)), .unset, .unset, .unset] [(.int pb)]))
      by_cases hc26_96 : pb.toInt = 0
      · refine OwnGo.fwd (fun tq' kq' => XS.ifYes X0.here hx rfl (pc0 := 26) (pc' := 49) rfl (hb hby at_26) rfl ((if0 _ _).trans (own_beq rfl (by decide) hc26_96).1) (by decide) (by decide) kq') ?_
        show OwnGo _ _ _ _ (s₁.setTop (mkF m 49 #[.val (.int pa), .val (.int pb), .val (.int pc), .val (.int pd), .val (.int pk), .val (.int (4 : Int32)), .unset, .unset, .unset] []))
        refine OwnGo.fwd (fun tq' kq' => XS.iconst X0.here hx rfl (hb hby at_49) kq') ?_
        show OwnGo _ _ _ _ (s₁.setTop (mkF m 50 #[.val (.int pa), .val (.int pb), .val (.int pc), .val (.int pd), .val (.int pk), .val (.int (4 : Int32)), .unset, .unset, .unset] [(.int (1 : Int32))]))
        exact own_retZ X0 hlk hx Bd.returns (hb hby at_50) (by decide) (by decide) e0 ⟨rfl, N⟩
      · refine OwnGo.fwd (fun tq' kq' => XS.ifNo X0.here hx rfl (hb hby at_26) rfl ((if0 _ _).trans (own_bneq rfl (by decide) hc26_96).1) kq') ?_
        show OwnGo _ _ _ _ (s₁.setTop (mkF m 29 #[.val (.int pa), .val (.int pb), .val (.int pc), .val (.int pd), .val (.int pk), .val (.int (4 : Int32)), .unset, .unset, .unset] []))
        refine OwnGo.fwd (fun tq' kq' => XS.iload X0.here hx rfl (hb hby at_29) rfl kq') ?_
        show OwnGo _ _ _ _ (s₁.setTop (mkF m 31 #[.val (.int pa), .val (.int pb), .val (.int pc), .val (.int pd), .val (.int pk), .val (.int (4 : Int32)), .unset, .unset, .unset] [(.int (4 : Int32))]))
        refine OwnGo.fwd (fun tq' kq' => XS.iconst X0.here hx rfl (hb hby at_31) kq') ?_
        show OwnGo _ _ _ _ (s₁.setTop (mkF m 32 #[.val (.int pa), .val (.int pb), .val (.int pc), .val (.int pd), .val (.int pk), .val (.int (4 : Int32)), .unset, .unset, .unset] [(.int (3 : Int32)), (.int (4 : Int32))]))
        have hc32_97 : ¬ ((4 : Int) < (3 : Int)) := by decide
        refine OwnGo.fwd (fun tq' kq' => XS.icmpNo X0.here hx rfl (hb hby at_32) rfl (own_bnlt (by decide) (by decide) hc32_97).1 kq') ?_
        show OwnGo _ _ _ _ (s₁.setTop (mkF m 35 #[.val (.int pa), .val (.int pb), .val (.int pc), .val (.int pd), .val (.int pk), .val (.int (4 : Int32)), .unset, .unset, .unset] []))
        refine OwnGo.fwd (fun tq' kq' => XS.iloadN X0.here hx rfl (hb hby at_35) rfl kq') ?_
        show OwnGo _ _ _ _ (s₁.setTop (mkF m 36 #[.val (.int pa), .val (.int pb), .val (.int pc), .val (.int pd), .val (.int pk), .val (.int (4 : Int32)), .unset, .unset, .unset] [(.int pc)]))
        by_cases hc36_98 : pc.toInt = 0
        · refine OwnGo.fwd (fun tq' kq' => XS.ifYes X0.here hx rfl (pc0 := 36) (pc' := 49) rfl (hb hby at_36) rfl ((if0 _ _).trans (own_beq rfl (by decide) hc36_98).1) (by decide) (by decide) kq') ?_
          show OwnGo _ _ _ _ (s₁.setTop (mkF m 49 #[.val (.int pa), .val (.int pb), .val (.int pc), .val (.int pd), .val (.int pk), .val (.int (4 : Int32)), .unset, .unset, .unset] []))
          refine OwnGo.fwd (fun tq' kq' => XS.iconst X0.here hx rfl (hb hby at_49) kq') ?_
          show OwnGo _ _ _ _ (s₁.setTop (mkF m 50 #[.val (.int pa), .val (.int pb), .val (.int pc), .val (.int pd), .val (.int pk), .val (.int (4 : Int32)), .unset, .unset, .unset] [(.int (1 : Int32))]))
          exact own_retZ X0 hlk hx Bd.returns (hb hby at_50) (by decide) (by decide) e0 ⟨rfl, N⟩
        · refine OwnGo.fwd (fun tq' kq' => XS.ifNo X0.here hx rfl (hb hby at_36) rfl ((if0 _ _).trans (own_bneq rfl (by decide) hc36_98).1) kq') ?_
          show OwnGo _ _ _ _ (s₁.setTop (mkF m 39 #[.val (.int pa), .val (.int pb), .val (.int pc), .val (.int pd), .val (.int pk), .val (.int (4 : Int32)), .unset, .unset, .unset] []))
          refine OwnGo.fwd (fun tq' kq' => XS.iload X0.here hx rfl (hb hby at_39) rfl kq') ?_
          show OwnGo _ _ _ _ (s₁.setTop (mkF m 41 #[.val (.int pa), .val (.int pb), .val (.int pc), .val (.int pd), .val (.int pk), .val (.int (4 : Int32)), .unset, .unset, .unset] [(.int (4 : Int32))]))
          refine OwnGo.fwd (fun tq' kq' => XS.iconst X0.here hx rfl (hb hby at_41) kq') ?_
          show OwnGo _ _ _ _ (s₁.setTop (mkF m 42 #[.val (.int pa), .val (.int pb), .val (.int pc), .val (.int pd), .val (.int pk), .val (.int (4 : Int32)), .unset, .unset, .unset] [(.int (4 : Int32)), (.int (4 : Int32))]))
          have hc42_99 : ¬ ((4 : Int) < (4 : Int)) := by decide
          refine OwnGo.fwd (fun tq' kq' => XS.icmpNo X0.here hx rfl (hb hby at_42) rfl (own_bnlt (by decide) (by decide) hc42_99).1 kq') ?_
          show OwnGo _ _ _ _ (s₁.setTop (mkF m 45 #[.val (.int pa), .val (.int pb), .val (.int pc), .val (.int pd), .val (.int pk), .val (.int (4 : Int32)), .unset, .unset, .unset] []))
          refine OwnGo.fwd (fun tq' kq' => XS.iloadN X0.here hx rfl (hb hby at_45) rfl kq') ?_
          show OwnGo _ _ _ _ (s₁.setTop (mkF m 46 #[.val (.int pa), .val (.int pb), .val (.int pc), .val (.int pd), .val (.int pk), .val (.int (4 : Int32)), .unset, .unset, .unset] [(.int pd)]))
          by_cases hc46_100 : pd.toInt = 0
          · refine OwnGo.fwd (fun tq' kq' => XS.ifNo X0.here hx rfl (hb hby at_46) rfl ((if0 _ _).trans (own_beq rfl (by decide) hc46_100).2) kq') ?_
            show OwnGo _ _ _ _ (s₁.setTop (mkF m 49 #[.val (.int pa), .val (.int pb), .val (.int pc), .val (.int pd), .val (.int pk), .val (.int (4 : Int32)), .unset, .unset, .unset] []))
            refine OwnGo.fwd (fun tq' kq' => XS.iconst X0.here hx rfl (hb hby at_49) kq') ?_
            show OwnGo _ _ _ _ (s₁.setTop (mkF m 50 #[.val (.int pa), .val (.int pb), .val (.int pc), .val (.int pd), .val (.int pk), .val (.int (4 : Int32)), .unset, .unset, .unset] [(.int (1 : Int32))]))
            exact own_retZ X0 hlk hx Bd.returns (hb hby at_50) (by decide) (by decide) e0 ⟨rfl, N⟩
          · refine OwnGo.fwd (fun tq' kq' => XS.ifYes X0.here hx rfl (pc0 := 46) (pc' := 51) rfl (hb hby at_46) rfl ((if0 _ _).trans (own_bneq rfl (by decide) hc46_100).2) (by decide) (by decide) kq') ?_
            show OwnGo _ _ _ _ (s₁.setTop (mkF m 51 #[.val (.int pa), .val (.int pb), .val (.int pc), .val (.int pd), .val (.int pk), .val (.int (4 : Int32)), .unset, .unset, .unset] []))
            have nz_pa := own_nz hc16_94
            have nz_pb := own_nz hc26_96
            have nz_pc := own_nz hc36_98
            have nz_pd := own_nz hc46_100
            obtain ⟨T101, h101, X101, e101, E101, A101, D101, -, st101⟩ := newO X0 hx hZ hown (hw _ (List.mem_of_getElem? (i := 1) rfl)) (hw _ (List.mem_of_getElem? (i := 2) rfl)) (hw _ (List.mem_of_getElem? (i := 3) rfl)) e0 (g := (mkF m 51 #[.val (.int pa), .val (.int pb), .val (.int pc), .val (.int pd), .val (.int pk), .val (.int (4 : Int32)), .unset, .unset, .unset] [])) rfl (hb hby at_51) (by decide) (by decide)
            obtain ⟨b101, g101⟩ : ∃ z, z = h0.size := ⟨_, rfl⟩
            rw [← g101] at A101 D101 st101
            have g_b101 : n0 ≤ b101 := Nat.le_trans Zs (Nat.le_of_eq g101.symm)
            have Zs := Nat.le_trans Zs E101.1
            have E_b101 := A101
            have F_ids_b101 : Fld Z h101 b101 "com/example/rolestack/rolestack/NumbersById" "ids" "[I" .null := D101 (Or.inr (hw _ (List.mem_of_getElem? (i := 12) rfl))) (ty := (.array .int)) (by decide)
            have F_numbers_b101 : Fld Z h101 b101 "com/example/rolestack/rolestack/NumbersById" "numbers" "[I" .null := D101 (Or.inr (hw _ (List.mem_of_getElem? (i := 14) rfl))) (ty := (.array .int)) (by decide)
            have F_shift_b101 : Fld Z h101 b101 "com/example/rolestack/rolestack/NumbersById" "shift" "I" (.int (0 : Int32)) := D101 (Or.inr (hw _ (List.mem_of_getElem? (i := 21) rfl))) (ty := .int) (by decide)
            have F_size_b101 : Fld Z h101 b101 "com/example/rolestack/rolestack/NumbersById" "size" "I" (.int (0 : Int32)) := D101 (Or.inl (hw _ (List.mem_of_getElem? (i := 28) rfl))) (ty := .int) (by decide)
            refine OwnGo.fwd st101 ?_
            show OwnGo _ _ _ _ (T101.setTop (mkF m 54 #[.val (.int pa), .val (.int pb), .val (.int pc), .val (.int pd), .val (.int pk), .val (.int (4 : Int32)), .unset, .unset, .unset] [(.ref b101)]))
            refine OwnGo.fwd (fun tq' kq' => XS.dup X101.here hx rfl (hb hby at_54) rfl rfl kq') ?_
            show OwnGo _ _ _ _ (T101.setTop (mkF m 55 #[.val (.int pa), .val (.int pb), .val (.int pc), .val (.int pd), .val (.int pk), .val (.int (4 : Int32)), .unset, .unset, .unset] [(.ref b101), (.ref b101)]))
            refine OwnGo.fwd (fun tq' kq' => XS.bipush X101.here hx rfl (hb hby at_55) kq') ?_
            show OwnGo _ _ _ _ (T101.setTop (mkF m 57 #[.val (.int pa), .val (.int pb), .val (.int pc), .val (.int pd), .val (.int pk), .val (.int (4 : Int32)), .unset, .unset, .unset] [(.int (16 : Int32)), (.ref b101), (.ref b101)]))
            obtain ⟨_, _, ⟨T102, L102, k102, n102⟩, -, X102, ⟨Lc102, hQ102, l102, y102, z102⟩, st102⟩ := X101.specialBack hx (y := (⟨"com/example/rolestack/rolestack/NumbersById", "<init>", "(I)V"⟩ : MethodName)) rfl hown (mvT hZ (hw _ (List.mem_of_getElem? (i := 4) rfl))) (mvT hZ (hw _ (List.mem_of_getElem? (i := 5) rfl))) (mvT hZ (hw _ (List.mem_of_getElem? (i := 6) rfl))) (by decide) (backOf (W := 1) (rm1 l Z a0 hw [] b101 h101 n0 Zs E_b101 F_ids_b101 F_numbers_b101 F_shift_b101 F_size_b101 g_b101) hZ (hw _ (List.mem_of_getElem? (i := 6) rfl)) (hw _ (List.mem_of_getElem? (i := 3) rfl)) (by decide) (by decide)) (g := (mkF m 57 #[.val (.int pa), .val (.int pb), .val (.int pc), .val (.int pd), .val (.int pk), .val (.int (4 : Int32)), .unset, .unset, .unset] [(.int (16 : Int32)), (.ref b101), (.ref b101)])) rfl (by rw [hml]; rfl) (Steps.refl _) (a := b101) (argsL := [(.int (16 : Int32))]) (rest := [(.ref b101)]) (lenOf pd_0 rfl) rfl (by show 2 * 0 + _ ≤ _; exact Nat.le_of_eq rfl) (hb hby at_57) (fun _ _ => ⟨rfl, e101, (by decide : 1 + 2 ≤ _), (by decide : 4 + 32 ≤ _)⟩)
            dsimp only [Pt.U, Pt.locs, Pt.cells, Pt.slots] at X102 l102 y102 z102 st102 hQ102
            subst l102 y102 z102
            obtain ⟨h102, eh102⟩ : ∃ z, z = T102.heap := ⟨_, rfl⟩
            rw [← eh102] at hQ102
            obtain ⟨rfl, N102q, K102, ia, na, sz_ia, sz_na, E_b101, F_ids_b101, F_numbers_b101, F_shift_b101, F_size_b101, V_ia, V_na, ne_b101_ia, ne_b101_na, ne_ia_na, g_b101, g_ia, g_na⟩ := hQ102
            have N := Fr.app N N102q
            have Zs := Nat.le_trans Zs K102.1
            have I0 := own_Inv0
            refine OwnGo.thru st102 ?_
            show OwnGo _ _ _ _ (T102.setTop (mkF m 60 #[.val (.int pa), .val (.int pb), .val (.int pc), .val (.int pd), .val (.int pk), .val (.int (4 : Int32)), .unset, .unset, .unset] [(.ref b101)]))
            refine OwnGo.fwd (fun tq' kq' => XS.astore X102.here hx rfl (hb hby at_60) rfl rfl (l' := #[.val (.int pa), .val (.int pb), .val (.int pc), .val (.int pd), .val (.int pk), .val (.int (4 : Int32)), .val (.ref b101), .unset, .unset]) rfl kq') ?_
            show OwnGo _ _ _ _ (T102.setTop (mkF m 62 #[.val (.int pa), .val (.int pb), .val (.int pc), .val (.int pd), .val (.int pk), .val (.int (4 : Int32)), .val (.ref b101), .unset, .unset] []))
            refine OwnGo.fwd (fun tq' kq' => XS.iconst X102.here hx rfl (hb hby at_62) kq') ?_
            show OwnGo _ _ _ _ (T102.setTop (mkF m 63 #[.val (.int pa), .val (.int pb), .val (.int pc), .val (.int pd), .val (.int pk), .val (.int (4 : Int32)), .val (.ref b101), .unset, .unset] [(.int (0 : Int32))]))
            refine OwnGo.fwd (fun tq' kq' => XS.istore X102.here hx rfl (hb hby at_63) rfl (l' := #[.val (.int pa), .val (.int pb), .val (.int pc), .val (.int pd), .val (.int pk), .val (.int (4 : Int32)), .val (.ref b101), .val (.int (0 : Int32)), .unset]) rfl kq') ?_
            show OwnGo _ _ _ _ (T102.setTop (mkF m 65 #[.val (.int pa), .val (.int pb), .val (.int pc), .val (.int pd), .val (.int pk), .val (.int (4 : Int32)), .val (.ref b101), .val (.int (0 : Int32)), .unset] []))
            refine OwnGo.fwd (fun tq' kq' => XS.iload X102.here hx rfl (hb hby at_65) rfl kq') ?_
            show OwnGo _ _ _ _ (T102.setTop (mkF m 67 #[.val (.int pa), .val (.int pb), .val (.int pc), .val (.int pd), .val (.int pk), .val (.int (4 : Int32)), .val (.ref b101), .val (.int (0 : Int32)), .unset] [(.int (4 : Int32))]))
            refine OwnGo.fwd (fun tq' kq' => XS.iconst X102.here hx rfl (hb hby at_67) kq') ?_
            show OwnGo _ _ _ _ (T102.setTop (mkF m 68 #[.val (.int pa), .val (.int pb), .val (.int pc), .val (.int pd), .val (.int pk), .val (.int (4 : Int32)), .val (.ref b101), .val (.int (0 : Int32)), .unset] [(.int (1 : Int32)), (.int (4 : Int32))]))
            have hc68_103 : ¬ ((4 : Int) < (1 : Int)) := by decide
            refine OwnGo.fwd (fun tq' kq' => XS.icmpNo X102.here hx rfl (hb hby at_68) rfl (own_bnlt (by decide) (by decide) hc68_103).1 kq') ?_
            show OwnGo _ _ _ _ (T102.setTop (mkF m 71 #[.val (.int pa), .val (.int pb), .val (.int pc), .val (.int pd), .val (.int pk), .val (.int (4 : Int32)), .val (.ref b101), .val (.int (0 : Int32)), .unset] []))
            refine OwnGo.fwd (fun tq' kq' => XS.aload X102.here hx rfl (hb hby at_71) rfl rfl kq') ?_
            show OwnGo _ _ _ _ (T102.setTop (mkF m 73 #[.val (.int pa), .val (.int pb), .val (.int pc), .val (.int pd), .val (.int pk), .val (.int (4 : Int32)), .val (.ref b101), .val (.int (0 : Int32)), .unset] [(.ref b101)]))
            refine OwnGo.fwd (fun tq' kq' => XS.iloadN X102.here hx rfl (hb hby at_73) rfl kq') ?_
            show OwnGo _ _ _ _ (T102.setTop (mkF m 74 #[.val (.int pa), .val (.int pb), .val (.int pc), .val (.int pd), .val (.int pk), .val (.int (4 : Int32)), .val (.ref b101), .val (.int (0 : Int32)), .unset] [(.int pa), (.ref b101)]))
            refine OwnGo.fwd (fun tq' kq' => XS.iconst X102.here hx rfl (hb hby at_74) kq') ?_
            show OwnGo _ _ _ _ (T102.setTop (mkF m 75 #[.val (.int pa), .val (.int pb), .val (.int pc), .val (.int pd), .val (.int pk), .val (.int (4 : Int32)), .val (.ref b101), .val (.int (0 : Int32)), .unset] [(.int (1 : Int32)), (.int pa), (.ref b101)]))
            obtain ⟨cq104, kq104, q104a, q104b, q104c⟩ := isOf hZ eh102.symm E_b101
            obtain ⟨_, _, ⟨T104, L104, k104, n104⟩, -, X104, ⟨Lc104, hQ104, l104, y104, z104⟩, st104⟩ := X102.virtualBack hx (y := (⟨"com/example/rolestack/rolestack/NumbersById", "put", "(II)V"⟩ : MethodName)) (z := (⟨"com/example/rolestack/rolestack/NumbersById", "put", "(II)V"⟩ : MethodName)) hown (mvT hZ (hw _ (List.mem_of_getElem? (i := 29) rfl))) (mvT hZ (hw _ (List.mem_of_getElem? (i := 30) rfl))) (notFace_of_selects (args := #[]) (mvT hZ (hw _ (List.mem_of_getElem? (i := 32) rfl)))) (mvT hZ (hw _ (List.mem_of_getElem? (i := 32) rfl))) (mvT hZ (hw _ (List.mem_of_getElem? (i := 31) rfl))) (by decide) (backOf (W := 0) (rm5 l Z a0 hw [] b101 ia na 0 (fun _ => 0) (fun _ => 0) pa (1 : Int32) h102 n0 Zs ⟨E_b101, F_ids_b101, F_numbers_b101, F_shift_b101, F_size_b101, V_ia, V_na, ne_b101_ia, ne_b101_na, ne_ia_na, g_b101, g_ia, g_na⟩ I0 (by decide) nz_pa) hZ (hw _ (List.mem_of_getElem? (i := 33) rfl)) (hw _ (List.mem_of_getElem? (i := 3) rfl)) (by decide) (by decide)) q104a q104c (g := (mkF m 75 #[.val (.int pa), .val (.int pb), .val (.int pc), .val (.int pd), .val (.int pk), .val (.int (4 : Int32)), .val (.ref b101), .val (.int (0 : Int32)), .unset] [(.int (1 : Int32)), (.int pa), (.ref b101)])) rfl (by rw [hml]; rfl) (Steps.refl _) (argsL := [(.int pa), (.int (1 : Int32))]) (rest := []) (lenOf pd_4 rfl) rfl (by show 2 * 0 + _ ≤ _; exact Nat.le_of_eq rfl) (hb hby at_75) (fun _ _ => ⟨rfl, eh102.symm, (by decide : 3 + 0 ≤ _), (by decide : 36 + 0 ≤ _)⟩)
            dsimp only [Pt.U, Pt.locs, Pt.cells, Pt.slots] at X104 l104 y104 z104 st104 hQ104
            subst l104 y104 z104
            obtain ⟨h104, eh104⟩ : ∃ z, z = T104.heap := ⟨_, rfl⟩
            rw [← eh104] at hQ104
            obtain ⟨rfl, N104q, K104, n1, f1, u1, ⟨E_b101, F_ids_b101, F_numbers_b101, F_shift_b101, F_size_b101, V_ia, V_na, ne_b101_ia, ne_b101_na, ne_ia_na, g_b101, g_ia, g_na⟩, HP1⟩ := hQ104
            have N := Fr.app N N104q
            have Zs := Nat.le_trans Zs K104.1
            have hle1 : n1 ≤ 0 + 1 := by rcases HP1.2.1 with q | q <;> omega
            refine OwnGo.thru st104 ?_
            show OwnGo _ _ _ _ (T104.setTop (mkF m 78 #[.val (.int pa), .val (.int pb), .val (.int pc), .val (.int pd), .val (.int pk), .val (.int (4 : Int32)), .val (.ref b101), .val (.int (0 : Int32)), .unset] []))
            have J81 : ∀ dd : Int32, dd = Int32.ofNat n1 → OwnGo p.tables e below (OwnEnd s (Q0 Z pa pb pc pd pk h0 n0) room_1.cells room_1.slots) (T104.setTop (mkF m 81 #[.val (.int pa), .val (.int pb), .val (.int pc), .val (.int pd), .val (.int pk), .val (.int (4 : Int32)), .val (.ref b101), .val (.int dd), .unset] [])) := by
              intro dd hdd
              subst hdd
              show OwnGo _ _ _ _ (T104.setTop (mkF m 81 #[.val (.int pa), .val (.int pb), .val (.int pc), .val (.int pd), .val (.int pk), .val (.int (4 : Int32)), .val (.ref b101), .val (.int (Int32.ofNat n1)), .unset] []))
              refine OwnGo.fwd (fun tq' kq' => XS.iload X104.here hx rfl (hb hby at_81) rfl kq') ?_
              show OwnGo _ _ _ _ (T104.setTop (mkF m 83 #[.val (.int pa), .val (.int pb), .val (.int pc), .val (.int pd), .val (.int pk), .val (.int (4 : Int32)), .val (.ref b101), .val (.int (Int32.ofNat n1)), .unset] [(.int (4 : Int32))]))
              refine OwnGo.fwd (fun tq' kq' => XS.iconst X104.here hx rfl (hb hby at_83) kq') ?_
              show OwnGo _ _ _ _ (T104.setTop (mkF m 84 #[.val (.int pa), .val (.int pb), .val (.int pc), .val (.int pd), .val (.int pk), .val (.int (4 : Int32)), .val (.ref b101), .val (.int (Int32.ofNat n1)), .unset] [(.int (2 : Int32)), (.int (4 : Int32))]))
              have hc84_105 : ¬ ((4 : Int) < (2 : Int)) := by decide
              refine OwnGo.fwd (fun tq' kq' => XS.icmpNo X104.here hx rfl (hb hby at_84) rfl (own_bnlt (by decide) (by decide) hc84_105).1 kq') ?_
              show OwnGo _ _ _ _ (T104.setTop (mkF m 87 #[.val (.int pa), .val (.int pb), .val (.int pc), .val (.int pd), .val (.int pk), .val (.int (4 : Int32)), .val (.ref b101), .val (.int (Int32.ofNat n1)), .unset] []))
              refine OwnGo.fwd (fun tq' kq' => XS.aload X104.here hx rfl (hb hby at_87) rfl rfl kq') ?_
              show OwnGo _ _ _ _ (T104.setTop (mkF m 89 #[.val (.int pa), .val (.int pb), .val (.int pc), .val (.int pd), .val (.int pk), .val (.int (4 : Int32)), .val (.ref b101), .val (.int (Int32.ofNat n1)), .unset] [(.ref b101)]))
              refine OwnGo.fwd (fun tq' kq' => XS.iloadN X104.here hx rfl (hb hby at_89) rfl kq') ?_
              show OwnGo _ _ _ _ (T104.setTop (mkF m 90 #[.val (.int pa), .val (.int pb), .val (.int pc), .val (.int pd), .val (.int pk), .val (.int (4 : Int32)), .val (.ref b101), .val (.int (Int32.ofNat n1)), .unset] [(.int pb), (.ref b101)]))
              refine OwnGo.fwd (fun tq' kq' => XS.iconst X104.here hx rfl (hb hby at_90) kq') ?_
              show OwnGo _ _ _ _ (T104.setTop (mkF m 91 #[.val (.int pa), .val (.int pb), .val (.int pc), .val (.int pd), .val (.int pk), .val (.int (4 : Int32)), .val (.ref b101), .val (.int (Int32.ofNat n1)), .unset] [(.int (2 : Int32)), (.int pb), (.ref b101)]))
              obtain ⟨cq106, kq106, q106a, q106b, q106c⟩ := isOf hZ eh104.symm E_b101
              obtain ⟨_, _, ⟨T106, L106, k106, n106⟩, -, X106, ⟨Lc106, hQ106, l106, y106, z106⟩, st106⟩ := X104.virtualBack hx (y := (⟨"com/example/rolestack/rolestack/NumbersById", "put", "(II)V"⟩ : MethodName)) (z := (⟨"com/example/rolestack/rolestack/NumbersById", "put", "(II)V"⟩ : MethodName)) hown (mvT hZ (hw _ (List.mem_of_getElem? (i := 29) rfl))) (mvT hZ (hw _ (List.mem_of_getElem? (i := 30) rfl))) (notFace_of_selects (args := #[]) (mvT hZ (hw _ (List.mem_of_getElem? (i := 32) rfl)))) (mvT hZ (hw _ (List.mem_of_getElem? (i := 32) rfl))) (mvT hZ (hw _ (List.mem_of_getElem? (i := 31) rfl))) (by decide) (backOf (W := 0) (rm5 l Z a0 hw [] b101 ia na n1 f1 u1 pb (2 : Int32) h104 n0 Zs ⟨E_b101, F_ids_b101, F_numbers_b101, F_shift_b101, F_size_b101, V_ia, V_na, ne_b101_ia, ne_b101_na, ne_ia_na, g_b101, g_ia, g_na⟩ HP1.1 (by omega) nz_pb) hZ (hw _ (List.mem_of_getElem? (i := 33) rfl)) (hw _ (List.mem_of_getElem? (i := 3) rfl)) (by decide) (by decide)) q106a q106c (g := (mkF m 91 #[.val (.int pa), .val (.int pb), .val (.int pc), .val (.int pd), .val (.int pk), .val (.int (4 : Int32)), .val (.ref b101), .val (.int (Int32.ofNat n1)), .unset] [(.int (2 : Int32)), (.int pb), (.ref b101)])) rfl (by rw [hml]; rfl) (Steps.refl _) (argsL := [(.int pb), (.int (2 : Int32))]) (rest := []) (lenOf pd_4 rfl) rfl (by show 2 * 0 + _ ≤ _; exact Nat.le_of_eq rfl) (hb hby at_91) (fun _ _ => ⟨rfl, eh104.symm, (by decide : 3 + 0 ≤ _), (by decide : 36 + 0 ≤ _)⟩)
              dsimp only [Pt.U, Pt.locs, Pt.cells, Pt.slots] at X106 l106 y106 z106 st106 hQ106
              subst l106 y106 z106
              obtain ⟨h106, eh106⟩ : ∃ z, z = T106.heap := ⟨_, rfl⟩
              rw [← eh106] at hQ106
              obtain ⟨rfl, N106q, K106, n2, f2, u2, ⟨E_b101, F_ids_b101, F_numbers_b101, F_shift_b101, F_size_b101, V_ia, V_na, ne_b101_ia, ne_b101_na, ne_ia_na, g_b101, g_ia, g_na⟩, HP2⟩ := hQ106
              have N := Fr.app N N106q
              have Zs := Nat.le_trans Zs K106.1
              have hle2 : n2 ≤ n1 + 1 := by rcases HP2.2.1 with q | q <;> omega
              refine OwnGo.thru st106 ?_
              show OwnGo _ _ _ _ (T106.setTop (mkF m 94 #[.val (.int pa), .val (.int pb), .val (.int pc), .val (.int pd), .val (.int pk), .val (.int (4 : Int32)), .val (.ref b101), .val (.int (Int32.ofNat n1)), .unset] []))
              have J102 : ∀ dd : Int32, dd = Int32.ofNat n2 → OwnGo p.tables e below (OwnEnd s (Q0 Z pa pb pc pd pk h0 n0) room_1.cells room_1.slots) (T106.setTop (mkF m 102 #[.val (.int pa), .val (.int pb), .val (.int pc), .val (.int pd), .val (.int pk), .val (.int (4 : Int32)), .val (.ref b101), .val (.int dd), .unset] [])) := by
                intro dd hdd
                subst hdd
                show OwnGo _ _ _ _ (T106.setTop (mkF m 102 #[.val (.int pa), .val (.int pb), .val (.int pc), .val (.int pd), .val (.int pk), .val (.int (4 : Int32)), .val (.ref b101), .val (.int (Int32.ofNat n2)), .unset] []))
                refine OwnGo.fwd (fun tq' kq' => XS.iload X106.here hx rfl (hb hby at_102) rfl kq') ?_
                show OwnGo _ _ _ _ (T106.setTop (mkF m 104 #[.val (.int pa), .val (.int pb), .val (.int pc), .val (.int pd), .val (.int pk), .val (.int (4 : Int32)), .val (.ref b101), .val (.int (Int32.ofNat n2)), .unset] [(.int (4 : Int32))]))
                refine OwnGo.fwd (fun tq' kq' => XS.iconst X106.here hx rfl (hb hby at_104) kq') ?_
                show OwnGo _ _ _ _ (T106.setTop (mkF m 105 #[.val (.int pa), .val (.int pb), .val (.int pc), .val (.int pd), .val (.int pk), .val (.int (4 : Int32)), .val (.ref b101), .val (.int (Int32.ofNat n2)), .unset] [(.int (3 : Int32)), (.int (4 : Int32))]))
                have hc105_107 : ¬ ((4 : Int) < (3 : Int)) := by decide
                refine OwnGo.fwd (fun tq' kq' => XS.icmpNo X106.here hx rfl (hb hby at_105) rfl (own_bnlt (by decide) (by decide) hc105_107).1 kq') ?_
                show OwnGo _ _ _ _ (T106.setTop (mkF m 108 #[.val (.int pa), .val (.int pb), .val (.int pc), .val (.int pd), .val (.int pk), .val (.int (4 : Int32)), .val (.ref b101), .val (.int (Int32.ofNat n2)), .unset] []))
                refine OwnGo.fwd (fun tq' kq' => XS.aload X106.here hx rfl (hb hby at_108) rfl rfl kq') ?_
                show OwnGo _ _ _ _ (T106.setTop (mkF m 110 #[.val (.int pa), .val (.int pb), .val (.int pc), .val (.int pd), .val (.int pk), .val (.int (4 : Int32)), .val (.ref b101), .val (.int (Int32.ofNat n2)), .unset] [(.ref b101)]))
                refine OwnGo.fwd (fun tq' kq' => XS.iloadN X106.here hx rfl (hb hby at_110) rfl kq') ?_
                show OwnGo _ _ _ _ (T106.setTop (mkF m 111 #[.val (.int pa), .val (.int pb), .val (.int pc), .val (.int pd), .val (.int pk), .val (.int (4 : Int32)), .val (.ref b101), .val (.int (Int32.ofNat n2)), .unset] [(.int pc), (.ref b101)]))
                refine OwnGo.fwd (fun tq' kq' => XS.iconst X106.here hx rfl (hb hby at_111) kq') ?_
                show OwnGo _ _ _ _ (T106.setTop (mkF m 112 #[.val (.int pa), .val (.int pb), .val (.int pc), .val (.int pd), .val (.int pk), .val (.int (4 : Int32)), .val (.ref b101), .val (.int (Int32.ofNat n2)), .unset] [(.int (3 : Int32)), (.int pc), (.ref b101)]))
                obtain ⟨cq108, kq108, q108a, q108b, q108c⟩ := isOf hZ eh106.symm E_b101
                obtain ⟨_, _, ⟨T108, L108, k108, n108⟩, -, X108, ⟨Lc108, hQ108, l108, y108, z108⟩, st108⟩ := X106.virtualBack hx (y := (⟨"com/example/rolestack/rolestack/NumbersById", "put", "(II)V"⟩ : MethodName)) (z := (⟨"com/example/rolestack/rolestack/NumbersById", "put", "(II)V"⟩ : MethodName)) hown (mvT hZ (hw _ (List.mem_of_getElem? (i := 29) rfl))) (mvT hZ (hw _ (List.mem_of_getElem? (i := 30) rfl))) (notFace_of_selects (args := #[]) (mvT hZ (hw _ (List.mem_of_getElem? (i := 32) rfl)))) (mvT hZ (hw _ (List.mem_of_getElem? (i := 32) rfl))) (mvT hZ (hw _ (List.mem_of_getElem? (i := 31) rfl))) (by decide) (backOf (W := 0) (rm5 l Z a0 hw [] b101 ia na n2 f2 u2 pc (3 : Int32) h106 n0 Zs ⟨E_b101, F_ids_b101, F_numbers_b101, F_shift_b101, F_size_b101, V_ia, V_na, ne_b101_ia, ne_b101_na, ne_ia_na, g_b101, g_ia, g_na⟩ HP2.1 (by omega) nz_pc) hZ (hw _ (List.mem_of_getElem? (i := 33) rfl)) (hw _ (List.mem_of_getElem? (i := 3) rfl)) (by decide) (by decide)) q108a q108c (g := (mkF m 112 #[.val (.int pa), .val (.int pb), .val (.int pc), .val (.int pd), .val (.int pk), .val (.int (4 : Int32)), .val (.ref b101), .val (.int (Int32.ofNat n2)), .unset] [(.int (3 : Int32)), (.int pc), (.ref b101)])) rfl (by rw [hml]; rfl) (Steps.refl _) (argsL := [(.int pc), (.int (3 : Int32))]) (rest := []) (lenOf pd_4 rfl) rfl (by show 2 * 0 + _ ≤ _; exact Nat.le_of_eq rfl) (hb hby at_112) (fun _ _ => ⟨rfl, eh106.symm, (by decide : 3 + 0 ≤ _), (by decide : 36 + 0 ≤ _)⟩)
                dsimp only [Pt.U, Pt.locs, Pt.cells, Pt.slots] at X108 l108 y108 z108 st108 hQ108
                subst l108 y108 z108
                obtain ⟨h108, eh108⟩ : ∃ z, z = T108.heap := ⟨_, rfl⟩
                rw [← eh108] at hQ108
                obtain ⟨rfl, N108q, K108, n3, f3, u3, ⟨E_b101, F_ids_b101, F_numbers_b101, F_shift_b101, F_size_b101, V_ia, V_na, ne_b101_ia, ne_b101_na, ne_ia_na, g_b101, g_ia, g_na⟩, HP3⟩ := hQ108
                have N := Fr.app N N108q
                have Zs := Nat.le_trans Zs K108.1
                have hle3 : n3 ≤ n2 + 1 := by rcases HP3.2.1 with q | q <;> omega
                refine OwnGo.thru st108 ?_
                show OwnGo _ _ _ _ (T108.setTop (mkF m 115 #[.val (.int pa), .val (.int pb), .val (.int pc), .val (.int pd), .val (.int pk), .val (.int (4 : Int32)), .val (.ref b101), .val (.int (Int32.ofNat n2)), .unset] []))
                have J128 : ∀ dd : Int32, dd = Int32.ofNat n3 → OwnGo p.tables e below (OwnEnd s (Q0 Z pa pb pc pd pk h0 n0) room_1.cells room_1.slots) (T108.setTop (mkF m 128 #[.val (.int pa), .val (.int pb), .val (.int pc), .val (.int pd), .val (.int pk), .val (.int (4 : Int32)), .val (.ref b101), .val (.int dd), .unset] [])) := by
                  intro dd hdd
                  subst hdd
                  show OwnGo _ _ _ _ (T108.setTop (mkF m 128 #[.val (.int pa), .val (.int pb), .val (.int pc), .val (.int pd), .val (.int pk), .val (.int (4 : Int32)), .val (.ref b101), .val (.int (Int32.ofNat n3)), .unset] []))
                  refine OwnGo.fwd (fun tq' kq' => XS.iload X108.here hx rfl (hb hby at_128) rfl kq') ?_
                  show OwnGo _ _ _ _ (T108.setTop (mkF m 130 #[.val (.int pa), .val (.int pb), .val (.int pc), .val (.int pd), .val (.int pk), .val (.int (4 : Int32)), .val (.ref b101), .val (.int (Int32.ofNat n3)), .unset] [(.int (4 : Int32))]))
                  refine OwnGo.fwd (fun tq' kq' => XS.iconst X108.here hx rfl (hb hby at_130) kq') ?_
                  show OwnGo _ _ _ _ (T108.setTop (mkF m 131 #[.val (.int pa), .val (.int pb), .val (.int pc), .val (.int pd), .val (.int pk), .val (.int (4 : Int32)), .val (.ref b101), .val (.int (Int32.ofNat n3)), .unset] [(.int (4 : Int32)), (.int (4 : Int32))]))
                  have hc131_109 : ¬ ((4 : Int) < (4 : Int)) := by decide
                  refine OwnGo.fwd (fun tq' kq' => XS.icmpNo X108.here hx rfl (hb hby at_131) rfl (own_bnlt (by decide) (by decide) hc131_109).1 kq') ?_
                  show OwnGo _ _ _ _ (T108.setTop (mkF m 134 #[.val (.int pa), .val (.int pb), .val (.int pc), .val (.int pd), .val (.int pk), .val (.int (4 : Int32)), .val (.ref b101), .val (.int (Int32.ofNat n3)), .unset] []))
                  refine OwnGo.fwd (fun tq' kq' => XS.aload X108.here hx rfl (hb hby at_134) rfl rfl kq') ?_
                  show OwnGo _ _ _ _ (T108.setTop (mkF m 136 #[.val (.int pa), .val (.int pb), .val (.int pc), .val (.int pd), .val (.int pk), .val (.int (4 : Int32)), .val (.ref b101), .val (.int (Int32.ofNat n3)), .unset] [(.ref b101)]))
                  refine OwnGo.fwd (fun tq' kq' => XS.iloadN X108.here hx rfl (hb hby at_136) rfl kq') ?_
                  show OwnGo _ _ _ _ (T108.setTop (mkF m 137 #[.val (.int pa), .val (.int pb), .val (.int pc), .val (.int pd), .val (.int pk), .val (.int (4 : Int32)), .val (.ref b101), .val (.int (Int32.ofNat n3)), .unset] [(.int pd), (.ref b101)]))
                  refine OwnGo.fwd (fun tq' kq' => XS.iconst X108.here hx rfl (hb hby at_137) kq') ?_
                  show OwnGo _ _ _ _ (T108.setTop (mkF m 138 #[.val (.int pa), .val (.int pb), .val (.int pc), .val (.int pd), .val (.int pk), .val (.int (4 : Int32)), .val (.ref b101), .val (.int (Int32.ofNat n3)), .unset] [(.int (4 : Int32)), (.int pd), (.ref b101)]))
                  obtain ⟨cq110, kq110, q110a, q110b, q110c⟩ := isOf hZ eh108.symm E_b101
                  obtain ⟨_, _, ⟨T110, L110, k110, n110⟩, -, X110, ⟨Lc110, hQ110, l110, y110, z110⟩, st110⟩ := X108.virtualBack hx (y := (⟨"com/example/rolestack/rolestack/NumbersById", "put", "(II)V"⟩ : MethodName)) (z := (⟨"com/example/rolestack/rolestack/NumbersById", "put", "(II)V"⟩ : MethodName)) hown (mvT hZ (hw _ (List.mem_of_getElem? (i := 29) rfl))) (mvT hZ (hw _ (List.mem_of_getElem? (i := 30) rfl))) (notFace_of_selects (args := #[]) (mvT hZ (hw _ (List.mem_of_getElem? (i := 32) rfl)))) (mvT hZ (hw _ (List.mem_of_getElem? (i := 32) rfl))) (mvT hZ (hw _ (List.mem_of_getElem? (i := 31) rfl))) (by decide) (backOf (W := 0) (rm5 l Z a0 hw [] b101 ia na n3 f3 u3 pd (4 : Int32) h108 n0 Zs ⟨E_b101, F_ids_b101, F_numbers_b101, F_shift_b101, F_size_b101, V_ia, V_na, ne_b101_ia, ne_b101_na, ne_ia_na, g_b101, g_ia, g_na⟩ HP3.1 (by omega) nz_pd) hZ (hw _ (List.mem_of_getElem? (i := 33) rfl)) (hw _ (List.mem_of_getElem? (i := 3) rfl)) (by decide) (by decide)) q110a q110c (g := (mkF m 138 #[.val (.int pa), .val (.int pb), .val (.int pc), .val (.int pd), .val (.int pk), .val (.int (4 : Int32)), .val (.ref b101), .val (.int (Int32.ofNat n3)), .unset] [(.int (4 : Int32)), (.int pd), (.ref b101)])) rfl (by rw [hml]; rfl) (Steps.refl _) (argsL := [(.int pd), (.int (4 : Int32))]) (rest := []) (lenOf pd_4 rfl) rfl (by show 2 * 0 + _ ≤ _; exact Nat.le_of_eq rfl) (hb hby at_138) (fun _ _ => ⟨rfl, eh108.symm, (by decide : 3 + 0 ≤ _), (by decide : 36 + 0 ≤ _)⟩)
                  dsimp only [Pt.U, Pt.locs, Pt.cells, Pt.slots] at X110 l110 y110 z110 st110 hQ110
                  subst l110 y110 z110
                  obtain ⟨h110, eh110⟩ : ∃ z, z = T110.heap := ⟨_, rfl⟩
                  rw [← eh110] at hQ110
                  obtain ⟨rfl, N110q, K110, n4, f4, u4, ⟨E_b101, F_ids_b101, F_numbers_b101, F_shift_b101, F_size_b101, V_ia, V_na, ne_b101_ia, ne_b101_na, ne_ia_na, g_b101, g_ia, g_na⟩, HP4⟩ := hQ110
                  have N := Fr.app N N110q
                  have Zs := Nat.le_trans Zs K110.1
                  have hle4 : n4 ≤ n3 + 1 := by rcases HP4.2.1 with q | q <;> omega
                  refine OwnGo.thru st110 ?_
                  show OwnGo _ _ _ _ (T110.setTop (mkF m 141 #[.val (.int pa), .val (.int pb), .val (.int pc), .val (.int pd), .val (.int pk), .val (.int (4 : Int32)), .val (.ref b101), .val (.int (Int32.ofNat n3)), .unset] []))
                  have J159 : ∀ dd : Int32, dd = Int32.ofNat n4 → OwnGo p.tables e below (OwnEnd s (Q0 Z pa pb pc pd pk h0 n0) room_1.cells room_1.slots) (T110.setTop (mkF m 159 #[.val (.int pa), .val (.int pb), .val (.int pc), .val (.int pd), .val (.int pk), .val (.int (4 : Int32)), .val (.ref b101), .val (.int dd), .unset] [])) := by
                    intro dd hdd
                    subst hdd
                    show OwnGo _ _ _ _ (T110.setTop (mkF m 159 #[.val (.int pa), .val (.int pb), .val (.int pc), .val (.int pd), .val (.int pk), .val (.int (4 : Int32)), .val (.ref b101), .val (.int (Int32.ofNat n4)), .unset] []))
                    refine OwnGo.fwd (fun tq' kq' => XS.aload X110.here hx rfl (hb hby at_159) rfl rfl kq') ?_
                    show OwnGo _ _ _ _ (T110.setTop (mkF m 161 #[.val (.int pa), .val (.int pb), .val (.int pc), .val (.int pd), .val (.int pk), .val (.int (4 : Int32)), .val (.ref b101), .val (.int (Int32.ofNat n4)), .unset] [(.ref b101)]))
                    obtain ⟨cq111, kq111, q111a, q111b, q111c⟩ := isOf hZ eh110.symm E_b101
                    obtain ⟨_, _, ⟨T111, L111, k111, n111⟩, -, X111, ⟨Lc111, hQ111, l111, y111, z111⟩, st111⟩ := X110.virtualBack hx (y := (⟨"com/example/rolestack/rolestack/NumbersById", "ids", "()[I"⟩ : MethodName)) (z := (⟨"com/example/rolestack/rolestack/NumbersById", "ids", "()[I"⟩ : MethodName)) hown (mvT hZ (hw _ (List.mem_of_getElem? (i := 22) rfl))) (mvT hZ (hw _ (List.mem_of_getElem? (i := 23) rfl))) (notFace_of_selects (args := #[]) (mvT hZ (hw _ (List.mem_of_getElem? (i := 25) rfl)))) (mvT hZ (hw _ (List.mem_of_getElem? (i := 25) rfl))) (mvT hZ (hw _ (List.mem_of_getElem? (i := 24) rfl))) (by decide) (backOf (W := 0) (rm4 l Z a0 hw [] b101 ia na n4 f4 u4 h110 n0 Zs ⟨E_b101, F_ids_b101, F_numbers_b101, F_shift_b101, F_size_b101, V_ia, V_na, ne_b101_ia, ne_b101_na, ne_ia_na, g_b101, g_ia, g_na⟩ HP4.1 (by omega)) hZ (hw _ (List.mem_of_getElem? (i := 26) rfl)) (hw _ (List.mem_of_getElem? (i := 3) rfl)) (by decide) (by decide)) q111a q111c (g := (mkF m 161 #[.val (.int pa), .val (.int pb), .val (.int pc), .val (.int pd), .val (.int pk), .val (.int (4 : Int32)), .val (.ref b101), .val (.int (Int32.ofNat n4)), .unset] [(.ref b101)])) rfl (by rw [hml]; rfl) (Steps.refl _) (argsL := []) (rest := []) (lenOf pd_3 rfl) rfl (by show 2 * 0 + _ ≤ _; exact Nat.le_of_eq rfl) (hb hby at_161) (fun _ _ => ⟨rfl, eh110.symm, (by decide : 3 + 1 ≤ _), (by decide : 36 + 4 ≤ _)⟩)
                    dsimp only [Pt.U, Pt.locs, Pt.cells, Pt.slots] at X111 l111 y111 z111 st111 hQ111
                    subst l111 y111 z111
                    obtain ⟨rr, g111⟩ : ∃ z, z = h110.size := ⟨_, rfl⟩
                    obtain ⟨h111, eh111⟩ : ∃ z, z = T111.heap := ⟨_, rfl⟩
                    rw [← eh111] at hQ111
                    obtain ⟨rfl, N111q, K111, uu, Vr111, huu⟩ := hQ111
                    have N := Fr.app N N111q
                    have Zs := Nat.le_trans Zs K111.1
                    have E_b101 := E_b101.keep K111
                    have F_ids_b101 := F_ids_b101.keep K111 nin0
                    have F_numbers_b101 := F_numbers_b101.keep K111 nin0
                    have F_shift_b101 := F_shift_b101.keep K111 nin0
                    have F_size_b101 := F_size_b101.keep K111 nin0
                    have V_ia := V_ia.keep K111 nin0
                    have V_na := V_na.keep K111 nin0
                    rw [← g111] at Vr111 st111
                    have V_rr := Vr111
                    refine OwnGo.thru st111 ?_
                    show OwnGo _ _ _ _ (T111.setTop (mkF m 164 #[.val (.int pa), .val (.int pb), .val (.int pc), .val (.int pd), .val (.int pk), .val (.int (4 : Int32)), .val (.ref b101), .val (.int (Int32.ofNat n4)), .unset] [(.ref rr)]))
                    refine OwnGo.fwd (fun tq' kq' => XS.astore X111.here hx rfl (hb hby at_164) rfl rfl (l' := #[.val (.int pa), .val (.int pb), .val (.int pc), .val (.int pd), .val (.int pk), .val (.int (4 : Int32)), .val (.ref b101), .val (.int (Int32.ofNat n4)), .val (.ref rr)]) rfl kq') ?_
                    show OwnGo _ _ _ _ (T111.setTop (mkF m 166 #[.val (.int pa), .val (.int pb), .val (.int pc), .val (.int pd), .val (.int pk), .val (.int (4 : Int32)), .val (.ref b101), .val (.int (Int32.ofNat n4)), .val (.ref rr)] []))
                    refine OwnGo.fwd (fun tq' kq' => XS.aload X111.here hx rfl (hb hby at_166) rfl rfl kq') ?_
                    show OwnGo _ _ _ _ (T111.setTop (mkF m 168 #[.val (.int pa), .val (.int pb), .val (.int pc), .val (.int pd), .val (.int pk), .val (.int (4 : Int32)), .val (.ref b101), .val (.int (Int32.ofNat n4)), .val (.ref rr)] [(.ref rr)]))
                    refine OwnGo.fwd (fun tq' kq' => own_len X111 hx hZ eh111.symm V_rr (g := (mkF m 168 #[.val (.int pa), .val (.int pb), .val (.int pc), .val (.int pd), .val (.int pk), .val (.int (4 : Int32)), .val (.ref b101), .val (.int (Int32.ofNat n4)), .val (.ref rr)] [(.ref rr)])) rfl rfl (hb hby at_168) tq' kq') ?_
                    show OwnGo _ _ _ _ (T111.setTop (mkF m 169 #[.val (.int pa), .val (.int pb), .val (.int pc), .val (.int pd), .val (.int pk), .val (.int (4 : Int32)), .val (.ref b101), .val (.int (Int32.ofNat n4)), .val (.ref rr)] [(.int (Int32.ofNat n4))]))
                    refine OwnGo.fwd (fun tq' kq' => XS.iload X111.here hx rfl (hb hby at_169) rfl kq') ?_
                    show OwnGo _ _ _ _ (T111.setTop (mkF m 171 #[.val (.int pa), .val (.int pb), .val (.int pc), .val (.int pd), .val (.int pk), .val (.int (4 : Int32)), .val (.ref b101), .val (.int (Int32.ofNat n4)), .val (.ref rr)] [(.int (Int32.ofNat n4)), (.int (Int32.ofNat n4))]))
                    have hc171_112 : (n4 : Int) = (n4 : Int) := rfl
                    refine OwnGo.fwd (fun tq' kq' => XS.icmpYes X111.here hx rfl (pc0 := 171) (pc' := 176) rfl (hb hby at_171) rfl (own_beq (own_ofNat (by omega)) (own_ofNat (by omega)) hc171_112).1 (by decide) (by decide) kq') ?_
                    show OwnGo _ _ _ _ (T111.setTop (mkF m 176 #[.val (.int pa), .val (.int pb), .val (.int pc), .val (.int pd), .val (.int pk), .val (.int (4 : Int32)), .val (.ref b101), .val (.int (Int32.ofNat n4)), .val (.ref rr)] []))
                    refine OwnGo.fwd (fun tq' kq' => XS.iload X111.here hx rfl (hb hby at_176) rfl kq') ?_
                    show OwnGo _ _ _ _ (T111.setTop (mkF m 178 #[.val (.int pa), .val (.int pb), .val (.int pc), .val (.int pd), .val (.int pk), .val (.int (4 : Int32)), .val (.ref b101), .val (.int (Int32.ofNat n4)), .val (.ref rr)] [(.int (4 : Int32))]))
                    refine OwnGo.fwd (fun tq' kq' => XS.iconst X111.here hx rfl (hb hby at_178) kq') ?_
                    show OwnGo _ _ _ _ (T111.setTop (mkF m 179 #[.val (.int pa), .val (.int pb), .val (.int pc), .val (.int pd), .val (.int pk), .val (.int (4 : Int32)), .val (.ref b101), .val (.int (Int32.ofNat n4)), .val (.ref rr)] [(.int (1 : Int32)), (.int (4 : Int32))]))
                    have hc179_113 : ¬ ((4 : Int) < (1 : Int)) := by decide
                    refine OwnGo.fwd (fun tq' kq' => XS.icmpNo X111.here hx rfl (hb hby at_179) rfl (own_bnlt (by decide) (by decide) hc179_113).1 kq') ?_
                    show OwnGo _ _ _ _ (T111.setTop (mkF m 182 #[.val (.int pa), .val (.int pb), .val (.int pc), .val (.int pd), .val (.int pk), .val (.int (4 : Int32)), .val (.ref b101), .val (.int (Int32.ofNat n4)), .val (.ref rr)] []))
                    refine OwnGo.fwd (fun tq' kq' => XS.aload X111.here hx rfl (hb hby at_182) rfl rfl kq') ?_
                    show OwnGo _ _ _ _ (T111.setTop (mkF m 184 #[.val (.int pa), .val (.int pb), .val (.int pc), .val (.int pd), .val (.int pk), .val (.int (4 : Int32)), .val (.ref b101), .val (.int (Int32.ofNat n4)), .val (.ref rr)] [(.ref rr)]))
                    refine OwnGo.fwd (fun tq' kq' => XS.iloadN X111.here hx rfl (hb hby at_184) rfl kq') ?_
                    show OwnGo _ _ _ _ (T111.setTop (mkF m 185 #[.val (.int pa), .val (.int pb), .val (.int pc), .val (.int pd), .val (.int pk), .val (.int (4 : Int32)), .val (.ref b101), .val (.int (Int32.ofNat n4)), .val (.ref rr)] [(.int pa), (.ref rr)]))
                    obtain ⟨_, _, ⟨T114, L114, k114, n114⟩, -, X114, ⟨Lc114, hQ114, l114, y114, z114⟩, st114⟩ := Jvm.LawKit.callS X111 hx (y := (⟨"com/example/rolestack/rolestack/NumbersByIdIdsPinLaw", "has", "([II)Z"⟩ : MethodName)) hown (mvT hZ (hw _ (List.mem_of_getElem? (i := 39) rfl))) (mvT hZ (hw _ (List.mem_of_getElem? (i := 40) rfl))) (mvT hZ (hw _ (List.mem_of_getElem? (i := 41) rfl))) (mvT hZ (hw _ (List.mem_of_getElem? (i := 42) rfl))) (by decide) (backOf (W := 0) (rm7 l Z a0 hw [] rr n4 uu pa h111 n0 Zs V_rr (by omega) (by
                      obtain ⟨q, hq, e⟩ := ((HP4.2.2 pa nz_pa).trans (or_congr ((HP3.2.2 pa nz_pa).trans (or_congr ((HP2.2.2 pa nz_pa).trans (or_congr ((HP1.2.2 pa nz_pa).trans (or_congr (iff_of_false (own_pr0 nz_pa) id) Iff.rfl)) Iff.rfl)) Iff.rfl)) Iff.rfl)).mpr (by simp)
                      refine ⟨own_cnt f4 q, ?_, ?_⟩
                      · rw [← HP4.1.1]; exact own_cnt_lt f4 hq (by rw [e]; exact nz_pa)
                      · rw [huu q hq (by rw [e]; exact nz_pa)]; exact e)) hZ (hw _ (List.mem_of_getElem? (i := 42) rfl)) (hw _ (List.mem_of_getElem? (i := 41) rfl)) (by decide) (by decide)) (g := (mkF m 185 #[.val (.int pa), .val (.int pb), .val (.int pc), .val (.int pd), .val (.int pk), .val (.int (4 : Int32)), .val (.ref b101), .val (.int (Int32.ofNat n4)), .val (.ref rr)] [(.int pa), (.ref rr)])) rfl (by rw [hml]; rfl) (argsL := [(.ref rr), (.int pa)]) (rest := []) (lenOf pd_5 rfl) rfl (by show 2 * 0 + _ ≤ _; exact Nat.le_of_eq rfl) (hb hby at_185) (fun _ _ => ⟨rfl, eh111.symm, (by decide : 4 + 0 ≤ _), (by decide : 40 + 0 ≤ _)⟩)
                    dsimp only [Pt.U, Pt.locs, Pt.cells, Pt.slots] at X114 l114 y114 z114 st114 hQ114
                    subst l114 y114 z114
                    obtain ⟨rfl, N114q, e114⟩ := hQ114
                    have N := Fr.app N N114q
                    refine OwnGo.fwd st114 ?_
                    show OwnGo _ _ _ _ (T114.setTop (mkF m 188 #[.val (.int pa), .val (.int pb), .val (.int pc), .val (.int pd), .val (.int pk), .val (.int (4 : Int32)), .val (.ref b101), .val (.int (Int32.ofNat n4)), .val (.ref rr)] [(.int (1 : Int32))]))
                    have hc188_115 : ¬ ((1 : Int) = (0 : Int)) := by decide
                    refine OwnGo.fwd (fun tq' kq' => XS.ifYes X114.here hx rfl (pc0 := 188) (pc' := 193) rfl (hb hby at_188) rfl ((if0 _ _).trans (own_bneq (by decide) (by decide) hc188_115).2) (by decide) (by decide) kq') ?_
                    show OwnGo _ _ _ _ (T114.setTop (mkF m 193 #[.val (.int pa), .val (.int pb), .val (.int pc), .val (.int pd), .val (.int pk), .val (.int (4 : Int32)), .val (.ref b101), .val (.int (Int32.ofNat n4)), .val (.ref rr)] []))
                    refine OwnGo.fwd (fun tq' kq' => XS.iload X114.here hx rfl (hb hby at_193) rfl kq') ?_
                    show OwnGo _ _ _ _ (T114.setTop (mkF m 195 #[.val (.int pa), .val (.int pb), .val (.int pc), .val (.int pd), .val (.int pk), .val (.int (4 : Int32)), .val (.ref b101), .val (.int (Int32.ofNat n4)), .val (.ref rr)] [(.int (4 : Int32))]))
                    refine OwnGo.fwd (fun tq' kq' => XS.iconst X114.here hx rfl (hb hby at_195) kq') ?_
                    show OwnGo _ _ _ _ (T114.setTop (mkF m 196 #[.val (.int pa), .val (.int pb), .val (.int pc), .val (.int pd), .val (.int pk), .val (.int (4 : Int32)), .val (.ref b101), .val (.int (Int32.ofNat n4)), .val (.ref rr)] [(.int (2 : Int32)), (.int (4 : Int32))]))
                    have hc196_116 : ¬ ((4 : Int) < (2 : Int)) := by decide
                    refine OwnGo.fwd (fun tq' kq' => XS.icmpNo X114.here hx rfl (hb hby at_196) rfl (own_bnlt (by decide) (by decide) hc196_116).1 kq') ?_
                    show OwnGo _ _ _ _ (T114.setTop (mkF m 199 #[.val (.int pa), .val (.int pb), .val (.int pc), .val (.int pd), .val (.int pk), .val (.int (4 : Int32)), .val (.ref b101), .val (.int (Int32.ofNat n4)), .val (.ref rr)] []))
                    refine OwnGo.fwd (fun tq' kq' => XS.aload X114.here hx rfl (hb hby at_199) rfl rfl kq') ?_
                    show OwnGo _ _ _ _ (T114.setTop (mkF m 201 #[.val (.int pa), .val (.int pb), .val (.int pc), .val (.int pd), .val (.int pk), .val (.int (4 : Int32)), .val (.ref b101), .val (.int (Int32.ofNat n4)), .val (.ref rr)] [(.ref rr)]))
                    refine OwnGo.fwd (fun tq' kq' => XS.iloadN X114.here hx rfl (hb hby at_201) rfl kq') ?_
                    show OwnGo _ _ _ _ (T114.setTop (mkF m 202 #[.val (.int pa), .val (.int pb), .val (.int pc), .val (.int pd), .val (.int pk), .val (.int (4 : Int32)), .val (.ref b101), .val (.int (Int32.ofNat n4)), .val (.ref rr)] [(.int pb), (.ref rr)]))
                    obtain ⟨_, _, ⟨T117, L117, k117, n117⟩, -, X117, ⟨Lc117, hQ117, l117, y117, z117⟩, st117⟩ := Jvm.LawKit.callS X114 hx (y := (⟨"com/example/rolestack/rolestack/NumbersByIdIdsPinLaw", "has", "([II)Z"⟩ : MethodName)) hown (mvT hZ (hw _ (List.mem_of_getElem? (i := 39) rfl))) (mvT hZ (hw _ (List.mem_of_getElem? (i := 40) rfl))) (mvT hZ (hw _ (List.mem_of_getElem? (i := 41) rfl))) (mvT hZ (hw _ (List.mem_of_getElem? (i := 42) rfl))) (by decide) (backOf (W := 0) (rm7 l Z a0 hw [] rr n4 uu pb h111 n0 Zs V_rr (by omega) (by
                      obtain ⟨q, hq, e⟩ := ((HP4.2.2 pb nz_pb).trans (or_congr ((HP3.2.2 pb nz_pb).trans (or_congr ((HP2.2.2 pb nz_pb).trans (or_congr ((HP1.2.2 pb nz_pb).trans (or_congr (iff_of_false (own_pr0 nz_pb) id) Iff.rfl)) Iff.rfl)) Iff.rfl)) Iff.rfl)).mpr (by simp)
                      refine ⟨own_cnt f4 q, ?_, ?_⟩
                      · rw [← HP4.1.1]; exact own_cnt_lt f4 hq (by rw [e]; exact nz_pb)
                      · rw [huu q hq (by rw [e]; exact nz_pb)]; exact e)) hZ (hw _ (List.mem_of_getElem? (i := 42) rfl)) (hw _ (List.mem_of_getElem? (i := 41) rfl)) (by decide) (by decide)) (g := (mkF m 202 #[.val (.int pa), .val (.int pb), .val (.int pc), .val (.int pd), .val (.int pk), .val (.int (4 : Int32)), .val (.ref b101), .val (.int (Int32.ofNat n4)), .val (.ref rr)] [(.int pb), (.ref rr)])) rfl (by rw [hml]; rfl) (argsL := [(.ref rr), (.int pb)]) (rest := []) (lenOf pd_5 rfl) rfl (by show 2 * 0 + _ ≤ _; exact Nat.le_of_eq rfl) (hb hby at_202) (fun _ _ => ⟨rfl, e114, (by decide : 4 + 0 ≤ _), (by decide : 40 + 0 ≤ _)⟩)
                    dsimp only [Pt.U, Pt.locs, Pt.cells, Pt.slots] at X117 l117 y117 z117 st117 hQ117
                    subst l117 y117 z117
                    obtain ⟨rfl, N117q, e117⟩ := hQ117
                    have N := Fr.app N N117q
                    refine OwnGo.fwd st117 ?_
                    show OwnGo _ _ _ _ (T117.setTop (mkF m 205 #[.val (.int pa), .val (.int pb), .val (.int pc), .val (.int pd), .val (.int pk), .val (.int (4 : Int32)), .val (.ref b101), .val (.int (Int32.ofNat n4)), .val (.ref rr)] [(.int (1 : Int32))]))
                    have hc205_118 : ¬ ((1 : Int) = (0 : Int)) := by decide
                    refine OwnGo.fwd (fun tq' kq' => XS.ifYes X117.here hx rfl (pc0 := 205) (pc' := 210) rfl (hb hby at_205) rfl ((if0 _ _).trans (own_bneq (by decide) (by decide) hc205_118).2) (by decide) (by decide) kq') ?_
                    show OwnGo _ _ _ _ (T117.setTop (mkF m 210 #[.val (.int pa), .val (.int pb), .val (.int pc), .val (.int pd), .val (.int pk), .val (.int (4 : Int32)), .val (.ref b101), .val (.int (Int32.ofNat n4)), .val (.ref rr)] []))
                    refine OwnGo.fwd (fun tq' kq' => XS.iload X117.here hx rfl (hb hby at_210) rfl kq') ?_
                    show OwnGo _ _ _ _ (T117.setTop (mkF m 212 #[.val (.int pa), .val (.int pb), .val (.int pc), .val (.int pd), .val (.int pk), .val (.int (4 : Int32)), .val (.ref b101), .val (.int (Int32.ofNat n4)), .val (.ref rr)] [(.int (4 : Int32))]))
                    refine OwnGo.fwd (fun tq' kq' => XS.iconst X117.here hx rfl (hb hby at_212) kq') ?_
                    show OwnGo _ _ _ _ (T117.setTop (mkF m 213 #[.val (.int pa), .val (.int pb), .val (.int pc), .val (.int pd), .val (.int pk), .val (.int (4 : Int32)), .val (.ref b101), .val (.int (Int32.ofNat n4)), .val (.ref rr)] [(.int (3 : Int32)), (.int (4 : Int32))]))
                    have hc213_119 : ¬ ((4 : Int) < (3 : Int)) := by decide
                    refine OwnGo.fwd (fun tq' kq' => XS.icmpNo X117.here hx rfl (hb hby at_213) rfl (own_bnlt (by decide) (by decide) hc213_119).1 kq') ?_
                    show OwnGo _ _ _ _ (T117.setTop (mkF m 216 #[.val (.int pa), .val (.int pb), .val (.int pc), .val (.int pd), .val (.int pk), .val (.int (4 : Int32)), .val (.ref b101), .val (.int (Int32.ofNat n4)), .val (.ref rr)] []))
                    refine OwnGo.fwd (fun tq' kq' => XS.aload X117.here hx rfl (hb hby at_216) rfl rfl kq') ?_
                    show OwnGo _ _ _ _ (T117.setTop (mkF m 218 #[.val (.int pa), .val (.int pb), .val (.int pc), .val (.int pd), .val (.int pk), .val (.int (4 : Int32)), .val (.ref b101), .val (.int (Int32.ofNat n4)), .val (.ref rr)] [(.ref rr)]))
                    refine OwnGo.fwd (fun tq' kq' => XS.iloadN X117.here hx rfl (hb hby at_218) rfl kq') ?_
                    show OwnGo _ _ _ _ (T117.setTop (mkF m 219 #[.val (.int pa), .val (.int pb), .val (.int pc), .val (.int pd), .val (.int pk), .val (.int (4 : Int32)), .val (.ref b101), .val (.int (Int32.ofNat n4)), .val (.ref rr)] [(.int pc), (.ref rr)]))
                    obtain ⟨_, _, ⟨T120, L120, k120, n120⟩, -, X120, ⟨Lc120, hQ120, l120, y120, z120⟩, st120⟩ := Jvm.LawKit.callS X117 hx (y := (⟨"com/example/rolestack/rolestack/NumbersByIdIdsPinLaw", "has", "([II)Z"⟩ : MethodName)) hown (mvT hZ (hw _ (List.mem_of_getElem? (i := 39) rfl))) (mvT hZ (hw _ (List.mem_of_getElem? (i := 40) rfl))) (mvT hZ (hw _ (List.mem_of_getElem? (i := 41) rfl))) (mvT hZ (hw _ (List.mem_of_getElem? (i := 42) rfl))) (by decide) (backOf (W := 0) (rm7 l Z a0 hw [] rr n4 uu pc h111 n0 Zs V_rr (by omega) (by
                      obtain ⟨q, hq, e⟩ := ((HP4.2.2 pc nz_pc).trans (or_congr ((HP3.2.2 pc nz_pc).trans (or_congr ((HP2.2.2 pc nz_pc).trans (or_congr ((HP1.2.2 pc nz_pc).trans (or_congr (iff_of_false (own_pr0 nz_pc) id) Iff.rfl)) Iff.rfl)) Iff.rfl)) Iff.rfl)).mpr (by simp)
                      refine ⟨own_cnt f4 q, ?_, ?_⟩
                      · rw [← HP4.1.1]; exact own_cnt_lt f4 hq (by rw [e]; exact nz_pc)
                      · rw [huu q hq (by rw [e]; exact nz_pc)]; exact e)) hZ (hw _ (List.mem_of_getElem? (i := 42) rfl)) (hw _ (List.mem_of_getElem? (i := 41) rfl)) (by decide) (by decide)) (g := (mkF m 219 #[.val (.int pa), .val (.int pb), .val (.int pc), .val (.int pd), .val (.int pk), .val (.int (4 : Int32)), .val (.ref b101), .val (.int (Int32.ofNat n4)), .val (.ref rr)] [(.int pc), (.ref rr)])) rfl (by rw [hml]; rfl) (argsL := [(.ref rr), (.int pc)]) (rest := []) (lenOf pd_5 rfl) rfl (by show 2 * 0 + _ ≤ _; exact Nat.le_of_eq rfl) (hb hby at_219) (fun _ _ => ⟨rfl, e117, (by decide : 4 + 0 ≤ _), (by decide : 40 + 0 ≤ _)⟩)
                    dsimp only [Pt.U, Pt.locs, Pt.cells, Pt.slots] at X120 l120 y120 z120 st120 hQ120
                    subst l120 y120 z120
                    obtain ⟨rfl, N120q, e120⟩ := hQ120
                    have N := Fr.app N N120q
                    refine OwnGo.fwd st120 ?_
                    show OwnGo _ _ _ _ (T120.setTop (mkF m 222 #[.val (.int pa), .val (.int pb), .val (.int pc), .val (.int pd), .val (.int pk), .val (.int (4 : Int32)), .val (.ref b101), .val (.int (Int32.ofNat n4)), .val (.ref rr)] [(.int (1 : Int32))]))
                    have hc222_121 : ¬ ((1 : Int) = (0 : Int)) := by decide
                    refine OwnGo.fwd (fun tq' kq' => XS.ifYes X120.here hx rfl (pc0 := 222) (pc' := 227) rfl (hb hby at_222) rfl ((if0 _ _).trans (own_bneq (by decide) (by decide) hc222_121).2) (by decide) (by decide) kq') ?_
                    show OwnGo _ _ _ _ (T120.setTop (mkF m 227 #[.val (.int pa), .val (.int pb), .val (.int pc), .val (.int pd), .val (.int pk), .val (.int (4 : Int32)), .val (.ref b101), .val (.int (Int32.ofNat n4)), .val (.ref rr)] []))
                    refine OwnGo.fwd (fun tq' kq' => XS.iload X120.here hx rfl (hb hby at_227) rfl kq') ?_
                    show OwnGo _ _ _ _ (T120.setTop (mkF m 229 #[.val (.int pa), .val (.int pb), .val (.int pc), .val (.int pd), .val (.int pk), .val (.int (4 : Int32)), .val (.ref b101), .val (.int (Int32.ofNat n4)), .val (.ref rr)] [(.int (4 : Int32))]))
                    refine OwnGo.fwd (fun tq' kq' => XS.iconst X120.here hx rfl (hb hby at_229) kq') ?_
                    show OwnGo _ _ _ _ (T120.setTop (mkF m 230 #[.val (.int pa), .val (.int pb), .val (.int pc), .val (.int pd), .val (.int pk), .val (.int (4 : Int32)), .val (.ref b101), .val (.int (Int32.ofNat n4)), .val (.ref rr)] [(.int (4 : Int32)), (.int (4 : Int32))]))
                    have hc230_122 : ¬ ((4 : Int) < (4 : Int)) := by decide
                    refine OwnGo.fwd (fun tq' kq' => XS.icmpNo X120.here hx rfl (hb hby at_230) rfl (own_bnlt (by decide) (by decide) hc230_122).1 kq') ?_
                    show OwnGo _ _ _ _ (T120.setTop (mkF m 233 #[.val (.int pa), .val (.int pb), .val (.int pc), .val (.int pd), .val (.int pk), .val (.int (4 : Int32)), .val (.ref b101), .val (.int (Int32.ofNat n4)), .val (.ref rr)] []))
                    refine OwnGo.fwd (fun tq' kq' => XS.aload X120.here hx rfl (hb hby at_233) rfl rfl kq') ?_
                    show OwnGo _ _ _ _ (T120.setTop (mkF m 235 #[.val (.int pa), .val (.int pb), .val (.int pc), .val (.int pd), .val (.int pk), .val (.int (4 : Int32)), .val (.ref b101), .val (.int (Int32.ofNat n4)), .val (.ref rr)] [(.ref rr)]))
                    refine OwnGo.fwd (fun tq' kq' => XS.iloadN X120.here hx rfl (hb hby at_235) rfl kq') ?_
                    show OwnGo _ _ _ _ (T120.setTop (mkF m 236 #[.val (.int pa), .val (.int pb), .val (.int pc), .val (.int pd), .val (.int pk), .val (.int (4 : Int32)), .val (.ref b101), .val (.int (Int32.ofNat n4)), .val (.ref rr)] [(.int pd), (.ref rr)]))
                    obtain ⟨_, _, ⟨T123, L123, k123, n123⟩, -, X123, ⟨Lc123, hQ123, l123, y123, z123⟩, st123⟩ := Jvm.LawKit.callS X120 hx (y := (⟨"com/example/rolestack/rolestack/NumbersByIdIdsPinLaw", "has", "([II)Z"⟩ : MethodName)) hown (mvT hZ (hw _ (List.mem_of_getElem? (i := 39) rfl))) (mvT hZ (hw _ (List.mem_of_getElem? (i := 40) rfl))) (mvT hZ (hw _ (List.mem_of_getElem? (i := 41) rfl))) (mvT hZ (hw _ (List.mem_of_getElem? (i := 42) rfl))) (by decide) (backOf (W := 0) (rm7 l Z a0 hw [] rr n4 uu pd h111 n0 Zs V_rr (by omega) (by
                      obtain ⟨q, hq, e⟩ := ((HP4.2.2 pd nz_pd).trans (or_congr ((HP3.2.2 pd nz_pd).trans (or_congr ((HP2.2.2 pd nz_pd).trans (or_congr ((HP1.2.2 pd nz_pd).trans (or_congr (iff_of_false (own_pr0 nz_pd) id) Iff.rfl)) Iff.rfl)) Iff.rfl)) Iff.rfl)).mpr (by simp)
                      refine ⟨own_cnt f4 q, ?_, ?_⟩
                      · rw [← HP4.1.1]; exact own_cnt_lt f4 hq (by rw [e]; exact nz_pd)
                      · rw [huu q hq (by rw [e]; exact nz_pd)]; exact e)) hZ (hw _ (List.mem_of_getElem? (i := 42) rfl)) (hw _ (List.mem_of_getElem? (i := 41) rfl)) (by decide) (by decide)) (g := (mkF m 236 #[.val (.int pa), .val (.int pb), .val (.int pc), .val (.int pd), .val (.int pk), .val (.int (4 : Int32)), .val (.ref b101), .val (.int (Int32.ofNat n4)), .val (.ref rr)] [(.int pd), (.ref rr)])) rfl (by rw [hml]; rfl) (argsL := [(.ref rr), (.int pd)]) (rest := []) (lenOf pd_5 rfl) rfl (by show 2 * 0 + _ ≤ _; exact Nat.le_of_eq rfl) (hb hby at_236) (fun _ _ => ⟨rfl, e120, (by decide : 4 + 0 ≤ _), (by decide : 40 + 0 ≤ _)⟩)
                    dsimp only [Pt.U, Pt.locs, Pt.cells, Pt.slots] at X123 l123 y123 z123 st123 hQ123
                    subst l123 y123 z123
                    obtain ⟨rfl, N123q, e123⟩ := hQ123
                    have N := Fr.app N N123q
                    refine OwnGo.fwd st123 ?_
                    show OwnGo _ _ _ _ (T123.setTop (mkF m 239 #[.val (.int pa), .val (.int pb), .val (.int pc), .val (.int pd), .val (.int pk), .val (.int (4 : Int32)), .val (.ref b101), .val (.int (Int32.ofNat n4)), .val (.ref rr)] [(.int (1 : Int32))]))
                    have hc239_124 : ¬ ((1 : Int) = (0 : Int)) := by decide
                    refine OwnGo.fwd (fun tq' kq' => XS.ifYes X123.here hx rfl (pc0 := 239) (pc' := 244) rfl (hb hby at_239) rfl ((if0 _ _).trans (own_bneq (by decide) (by decide) hc239_124).2) (by decide) (by decide) kq') ?_
                    show OwnGo _ _ _ _ (T123.setTop (mkF m 244 #[.val (.int pa), .val (.int pb), .val (.int pc), .val (.int pd), .val (.int pk), .val (.int (4 : Int32)), .val (.ref b101), .val (.int (Int32.ofNat n4)), .val (.ref rr)] []))
                    refine OwnGo.fwd (fun tq' kq' => XS.iconst X123.here hx rfl (hb hby at_244) kq') ?_
                    show OwnGo _ _ _ _ (T123.setTop (mkF m 245 #[.val (.int pa), .val (.int pb), .val (.int pc), .val (.int pd), .val (.int pk), .val (.int (4 : Int32)), .val (.ref b101), .val (.int (Int32.ofNat n4)), .val (.ref rr)] [(.int (1 : Int32))]))
                    exact own_retZ X123 hlk hx Bd.returns (hb hby at_245) (by decide) (by decide) e123 ⟨rfl, N⟩
                  refine OwnGo.fwd (fun tq' kq' => XS.iloadN X110.here hx rfl (hb hby at_141) rfl kq') ?_
                  show OwnGo _ _ _ _ (T110.setTop (mkF m 142 #[.val (.int pa), .val (.int pb), .val (.int pc), .val (.int pd), .val (.int pk), .val (.int (4 : Int32)), .val (.ref b101), .val (.int (Int32.ofNat n3)), .unset] [(.int pd)]))
                  refine OwnGo.fwd (fun tq' kq' => XS.iloadN X110.here hx rfl (hb hby at_142) rfl kq') ?_
                  show OwnGo _ _ _ _ (T110.setTop (mkF m 143 #[.val (.int pa), .val (.int pb), .val (.int pc), .val (.int pd), .val (.int pk), .val (.int (4 : Int32)), .val (.ref b101), .val (.int (Int32.ofNat n3)), .unset] [(.int pa), (.int pd)]))
                  by_cases hc143_125 : pd.toInt = pa.toInt
                  · refine OwnGo.fwd (fun tq' kq' => XS.icmpYes X110.here hx rfl (pc0 := 143) (pc' := 159) rfl (hb hby at_143) rfl (own_beq rfl rfl hc143_125).1 (by decide) (by decide) kq') ?_
                    show OwnGo _ _ _ _ (T110.setTop (mkF m 159 #[.val (.int pa), .val (.int pb), .val (.int pc), .val (.int pd), .val (.int pk), .val (.int (4 : Int32)), .val (.ref b101), .val (.int (Int32.ofNat n3)), .unset] []))
                    have pq := ((HP3.2.2 pd nz_pd).trans (or_congr ((HP2.2.2 pd nz_pd).trans (or_congr ((HP1.2.2 pd nz_pd).trans (or_congr (iff_of_false (own_pr0 nz_pd) id) Iff.rfl)) Iff.rfl)) Iff.rfl))
                    have d_hc143_125 := own_ei hc143_125
                    have hs4 : n4 = n3 := by
                      rcases HP4.2.1 with q | q
                      · exact q.2
                      · exact absurd (pq.mpr (by simp [*])) q.1
                    exact J159 _ (by rw [hs4])
                  · refine OwnGo.fwd (fun tq' kq' => XS.icmpNo X110.here hx rfl (hb hby at_143) rfl (own_bneq rfl rfl hc143_125).1 kq') ?_
                    show OwnGo _ _ _ _ (T110.setTop (mkF m 146 #[.val (.int pa), .val (.int pb), .val (.int pc), .val (.int pd), .val (.int pk), .val (.int (4 : Int32)), .val (.ref b101), .val (.int (Int32.ofNat n3)), .unset] []))
                    refine OwnGo.fwd (fun tq' kq' => XS.iloadN X110.here hx rfl (hb hby at_146) rfl kq') ?_
                    show OwnGo _ _ _ _ (T110.setTop (mkF m 147 #[.val (.int pa), .val (.int pb), .val (.int pc), .val (.int pd), .val (.int pk), .val (.int (4 : Int32)), .val (.ref b101), .val (.int (Int32.ofNat n3)), .unset] [(.int pd)]))
                    refine OwnGo.fwd (fun tq' kq' => XS.iloadN X110.here hx rfl (hb hby at_147) rfl kq') ?_
                    show OwnGo _ _ _ _ (T110.setTop (mkF m 148 #[.val (.int pa), .val (.int pb), .val (.int pc), .val (.int pd), .val (.int pk), .val (.int (4 : Int32)), .val (.ref b101), .val (.int (Int32.ofNat n3)), .unset] [(.int pb), (.int pd)]))
                    by_cases hc148_126 : pd.toInt = pb.toInt
                    · refine OwnGo.fwd (fun tq' kq' => XS.icmpYes X110.here hx rfl (pc0 := 148) (pc' := 159) rfl (hb hby at_148) rfl (own_beq rfl rfl hc148_126).1 (by decide) (by decide) kq') ?_
                      show OwnGo _ _ _ _ (T110.setTop (mkF m 159 #[.val (.int pa), .val (.int pb), .val (.int pc), .val (.int pd), .val (.int pk), .val (.int (4 : Int32)), .val (.ref b101), .val (.int (Int32.ofNat n3)), .unset] []))
                      have pq := ((HP3.2.2 pd nz_pd).trans (or_congr ((HP2.2.2 pd nz_pd).trans (or_congr ((HP1.2.2 pd nz_pd).trans (or_congr (iff_of_false (own_pr0 nz_pd) id) Iff.rfl)) Iff.rfl)) Iff.rfl))
                      have d_hc143_125 := own_ni hc143_125
                      have d_hc148_126 := own_ei hc148_126
                      have hs4 : n4 = n3 := by
                        rcases HP4.2.1 with q | q
                        · exact q.2
                        · exact absurd (pq.mpr (by simp [*])) q.1
                      exact J159 _ (by rw [hs4])
                    · refine OwnGo.fwd (fun tq' kq' => XS.icmpNo X110.here hx rfl (hb hby at_148) rfl (own_bneq rfl rfl hc148_126).1 kq') ?_
                      show OwnGo _ _ _ _ (T110.setTop (mkF m 151 #[.val (.int pa), .val (.int pb), .val (.int pc), .val (.int pd), .val (.int pk), .val (.int (4 : Int32)), .val (.ref b101), .val (.int (Int32.ofNat n3)), .unset] []))
                      refine OwnGo.fwd (fun tq' kq' => XS.iloadN X110.here hx rfl (hb hby at_151) rfl kq') ?_
                      show OwnGo _ _ _ _ (T110.setTop (mkF m 152 #[.val (.int pa), .val (.int pb), .val (.int pc), .val (.int pd), .val (.int pk), .val (.int (4 : Int32)), .val (.ref b101), .val (.int (Int32.ofNat n3)), .unset] [(.int pd)]))
                      refine OwnGo.fwd (fun tq' kq' => XS.iloadN X110.here hx rfl (hb hby at_152) rfl kq') ?_
                      show OwnGo _ _ _ _ (T110.setTop (mkF m 153 #[.val (.int pa), .val (.int pb), .val (.int pc), .val (.int pd), .val (.int pk), .val (.int (4 : Int32)), .val (.ref b101), .val (.int (Int32.ofNat n3)), .unset] [(.int pc), (.int pd)]))
                      by_cases hc153_127 : pd.toInt = pc.toInt
                      · refine OwnGo.fwd (fun tq' kq' => XS.icmpYes X110.here hx rfl (pc0 := 153) (pc' := 159) rfl (hb hby at_153) rfl (own_beq rfl rfl hc153_127).1 (by decide) (by decide) kq') ?_
                        show OwnGo _ _ _ _ (T110.setTop (mkF m 159 #[.val (.int pa), .val (.int pb), .val (.int pc), .val (.int pd), .val (.int pk), .val (.int (4 : Int32)), .val (.ref b101), .val (.int (Int32.ofNat n3)), .unset] []))
                        have pq := ((HP3.2.2 pd nz_pd).trans (or_congr ((HP2.2.2 pd nz_pd).trans (or_congr ((HP1.2.2 pd nz_pd).trans (or_congr (iff_of_false (own_pr0 nz_pd) id) Iff.rfl)) Iff.rfl)) Iff.rfl))
                        have d_hc143_125 := own_ni hc143_125
                        have d_hc148_126 := own_ni hc148_126
                        have d_hc153_127 := own_ei hc153_127
                        have hs4 : n4 = n3 := by
                          rcases HP4.2.1 with q | q
                          · exact q.2
                          · exact absurd (pq.mpr (by simp [*])) q.1
                        exact J159 _ (by rw [hs4])
                      · refine OwnGo.fwd (fun tq' kq' => XS.icmpNo X110.here hx rfl (hb hby at_153) rfl (own_bneq rfl rfl hc153_127).1 kq') ?_
                        show OwnGo _ _ _ _ (T110.setTop (mkF m 156 #[.val (.int pa), .val (.int pb), .val (.int pc), .val (.int pd), .val (.int pk), .val (.int (4 : Int32)), .val (.ref b101), .val (.int (Int32.ofNat n3)), .unset] []))
                        refine OwnGo.fwd (fun tq' kq' => XS.iinc X110.here hx rfl (hb hby at_156) rfl (l' := #[.val (.int pa), .val (.int pb), .val (.int pc), .val (.int pd), .val (.int pk), .val (.int (4 : Int32)), .val (.ref b101), .val (.int ((Int32.ofNat n3) + (1 : Int32))), .unset]) rfl kq') ?_
                        show OwnGo _ _ _ _ (T110.setTop (mkF m 159 #[.val (.int pa), .val (.int pb), .val (.int pc), .val (.int pd), .val (.int pk), .val (.int (4 : Int32)), .val (.ref b101), .val (.int ((Int32.ofNat n3) + (1 : Int32))), .unset] []))
                        have pq := ((HP3.2.2 pd nz_pd).trans (or_congr ((HP2.2.2 pd nz_pd).trans (or_congr ((HP1.2.2 pd nz_pd).trans (or_congr (iff_of_false (own_pr0 nz_pd) id) Iff.rfl)) Iff.rfl)) Iff.rfl))
                        have d_hc143_125 := own_ni hc143_125
                        have d_hc148_126 := own_ni hc148_126
                        have d_hc153_127 := own_ni hc153_127
                        have hs4 : n4 = n3 + 1 := by
                          rcases HP4.2.1 with q | q
                          · exact absurd (pq.mp q.1) (by simp [*])
                          · exact q.2
                        exact J159 _ (by rw [hs4]; first | exact own_ofNatS _ | rfl)
                refine OwnGo.fwd (fun tq' kq' => XS.iloadN X108.here hx rfl (hb hby at_115) rfl kq') ?_
                show OwnGo _ _ _ _ (T108.setTop (mkF m 116 #[.val (.int pa), .val (.int pb), .val (.int pc), .val (.int pd), .val (.int pk), .val (.int (4 : Int32)), .val (.ref b101), .val (.int (Int32.ofNat n2)), .unset] [(.int pc)]))
                refine OwnGo.fwd (fun tq' kq' => XS.iloadN X108.here hx rfl (hb hby at_116) rfl kq') ?_
                show OwnGo _ _ _ _ (T108.setTop (mkF m 117 #[.val (.int pa), .val (.int pb), .val (.int pc), .val (.int pd), .val (.int pk), .val (.int (4 : Int32)), .val (.ref b101), .val (.int (Int32.ofNat n2)), .unset] [(.int pa), (.int pc)]))
                by_cases hc117_128 : pc.toInt = pa.toInt
                · refine OwnGo.fwd (fun tq' kq' => XS.icmpYes X108.here hx rfl (pc0 := 117) (pc' := 128) rfl (hb hby at_117) rfl (own_beq rfl rfl hc117_128).1 (by decide) (by decide) kq') ?_
                  show OwnGo _ _ _ _ (T108.setTop (mkF m 128 #[.val (.int pa), .val (.int pb), .val (.int pc), .val (.int pd), .val (.int pk), .val (.int (4 : Int32)), .val (.ref b101), .val (.int (Int32.ofNat n2)), .unset] []))
                  have pq := ((HP2.2.2 pc nz_pc).trans (or_congr ((HP1.2.2 pc nz_pc).trans (or_congr (iff_of_false (own_pr0 nz_pc) id) Iff.rfl)) Iff.rfl))
                  have d_hc117_128 := own_ei hc117_128
                  have hs3 : n3 = n2 := by
                    rcases HP3.2.1 with q | q
                    · exact q.2
                    · exact absurd (pq.mpr (by simp [*])) q.1
                  exact J128 _ (by rw [hs3])
                · refine OwnGo.fwd (fun tq' kq' => XS.icmpNo X108.here hx rfl (hb hby at_117) rfl (own_bneq rfl rfl hc117_128).1 kq') ?_
                  show OwnGo _ _ _ _ (T108.setTop (mkF m 120 #[.val (.int pa), .val (.int pb), .val (.int pc), .val (.int pd), .val (.int pk), .val (.int (4 : Int32)), .val (.ref b101), .val (.int (Int32.ofNat n2)), .unset] []))
                  refine OwnGo.fwd (fun tq' kq' => XS.iloadN X108.here hx rfl (hb hby at_120) rfl kq') ?_
                  show OwnGo _ _ _ _ (T108.setTop (mkF m 121 #[.val (.int pa), .val (.int pb), .val (.int pc), .val (.int pd), .val (.int pk), .val (.int (4 : Int32)), .val (.ref b101), .val (.int (Int32.ofNat n2)), .unset] [(.int pc)]))
                  refine OwnGo.fwd (fun tq' kq' => XS.iloadN X108.here hx rfl (hb hby at_121) rfl kq') ?_
                  show OwnGo _ _ _ _ (T108.setTop (mkF m 122 #[.val (.int pa), .val (.int pb), .val (.int pc), .val (.int pd), .val (.int pk), .val (.int (4 : Int32)), .val (.ref b101), .val (.int (Int32.ofNat n2)), .unset] [(.int pb), (.int pc)]))
                  by_cases hc122_129 : pc.toInt = pb.toInt
                  · refine OwnGo.fwd (fun tq' kq' => XS.icmpYes X108.here hx rfl (pc0 := 122) (pc' := 128) rfl (hb hby at_122) rfl (own_beq rfl rfl hc122_129).1 (by decide) (by decide) kq') ?_
                    show OwnGo _ _ _ _ (T108.setTop (mkF m 128 #[.val (.int pa), .val (.int pb), .val (.int pc), .val (.int pd), .val (.int pk), .val (.int (4 : Int32)), .val (.ref b101), .val (.int (Int32.ofNat n2)), .unset] []))
                    have pq := ((HP2.2.2 pc nz_pc).trans (or_congr ((HP1.2.2 pc nz_pc).trans (or_congr (iff_of_false (own_pr0 nz_pc) id) Iff.rfl)) Iff.rfl))
                    have d_hc117_128 := own_ni hc117_128
                    have d_hc122_129 := own_ei hc122_129
                    have hs3 : n3 = n2 := by
                      rcases HP3.2.1 with q | q
                      · exact q.2
                      · exact absurd (pq.mpr (by simp [*])) q.1
                    exact J128 _ (by rw [hs3])
                  · refine OwnGo.fwd (fun tq' kq' => XS.icmpNo X108.here hx rfl (hb hby at_122) rfl (own_bneq rfl rfl hc122_129).1 kq') ?_
                    show OwnGo _ _ _ _ (T108.setTop (mkF m 125 #[.val (.int pa), .val (.int pb), .val (.int pc), .val (.int pd), .val (.int pk), .val (.int (4 : Int32)), .val (.ref b101), .val (.int (Int32.ofNat n2)), .unset] []))
                    refine OwnGo.fwd (fun tq' kq' => XS.iinc X108.here hx rfl (hb hby at_125) rfl (l' := #[.val (.int pa), .val (.int pb), .val (.int pc), .val (.int pd), .val (.int pk), .val (.int (4 : Int32)), .val (.ref b101), .val (.int ((Int32.ofNat n2) + (1 : Int32))), .unset]) rfl kq') ?_
                    show OwnGo _ _ _ _ (T108.setTop (mkF m 128 #[.val (.int pa), .val (.int pb), .val (.int pc), .val (.int pd), .val (.int pk), .val (.int (4 : Int32)), .val (.ref b101), .val (.int ((Int32.ofNat n2) + (1 : Int32))), .unset] []))
                    have pq := ((HP2.2.2 pc nz_pc).trans (or_congr ((HP1.2.2 pc nz_pc).trans (or_congr (iff_of_false (own_pr0 nz_pc) id) Iff.rfl)) Iff.rfl))
                    have d_hc117_128 := own_ni hc117_128
                    have d_hc122_129 := own_ni hc122_129
                    have hs3 : n3 = n2 + 1 := by
                      rcases HP3.2.1 with q | q
                      · exact absurd (pq.mp q.1) (by simp [*])
                      · exact q.2
                    exact J128 _ (by rw [hs3]; first | exact own_ofNatS _ | rfl)
              refine OwnGo.fwd (fun tq' kq' => XS.iloadN X106.here hx rfl (hb hby at_94) rfl kq') ?_
              show OwnGo _ _ _ _ (T106.setTop (mkF m 95 #[.val (.int pa), .val (.int pb), .val (.int pc), .val (.int pd), .val (.int pk), .val (.int (4 : Int32)), .val (.ref b101), .val (.int (Int32.ofNat n1)), .unset] [(.int pb)]))
              refine OwnGo.fwd (fun tq' kq' => XS.iloadN X106.here hx rfl (hb hby at_95) rfl kq') ?_
              show OwnGo _ _ _ _ (T106.setTop (mkF m 96 #[.val (.int pa), .val (.int pb), .val (.int pc), .val (.int pd), .val (.int pk), .val (.int (4 : Int32)), .val (.ref b101), .val (.int (Int32.ofNat n1)), .unset] [(.int pa), (.int pb)]))
              by_cases hc96_130 : pb.toInt = pa.toInt
              · refine OwnGo.fwd (fun tq' kq' => XS.icmpYes X106.here hx rfl (pc0 := 96) (pc' := 102) rfl (hb hby at_96) rfl (own_beq rfl rfl hc96_130).1 (by decide) (by decide) kq') ?_
                show OwnGo _ _ _ _ (T106.setTop (mkF m 102 #[.val (.int pa), .val (.int pb), .val (.int pc), .val (.int pd), .val (.int pk), .val (.int (4 : Int32)), .val (.ref b101), .val (.int (Int32.ofNat n1)), .unset] []))
                have pq := ((HP1.2.2 pb nz_pb).trans (or_congr (iff_of_false (own_pr0 nz_pb) id) Iff.rfl))
                have d_hc96_130 := own_ei hc96_130
                have hs2 : n2 = n1 := by
                  rcases HP2.2.1 with q | q
                  · exact q.2
                  · exact absurd (pq.mpr (by simp [*])) q.1
                exact J102 _ (by rw [hs2])
              · refine OwnGo.fwd (fun tq' kq' => XS.icmpNo X106.here hx rfl (hb hby at_96) rfl (own_bneq rfl rfl hc96_130).1 kq') ?_
                show OwnGo _ _ _ _ (T106.setTop (mkF m 99 #[.val (.int pa), .val (.int pb), .val (.int pc), .val (.int pd), .val (.int pk), .val (.int (4 : Int32)), .val (.ref b101), .val (.int (Int32.ofNat n1)), .unset] []))
                refine OwnGo.fwd (fun tq' kq' => XS.iinc X106.here hx rfl (hb hby at_99) rfl (l' := #[.val (.int pa), .val (.int pb), .val (.int pc), .val (.int pd), .val (.int pk), .val (.int (4 : Int32)), .val (.ref b101), .val (.int ((Int32.ofNat n1) + (1 : Int32))), .unset]) rfl kq') ?_
                show OwnGo _ _ _ _ (T106.setTop (mkF m 102 #[.val (.int pa), .val (.int pb), .val (.int pc), .val (.int pd), .val (.int pk), .val (.int (4 : Int32)), .val (.ref b101), .val (.int ((Int32.ofNat n1) + (1 : Int32))), .unset] []))
                have pq := ((HP1.2.2 pb nz_pb).trans (or_congr (iff_of_false (own_pr0 nz_pb) id) Iff.rfl))
                have d_hc96_130 := own_ni hc96_130
                have hs2 : n2 = n1 + 1 := by
                  rcases HP2.2.1 with q | q
                  · exact absurd (pq.mp q.1) (by simp [*])
                  · exact q.2
                exact J102 _ (by rw [hs2]; first | exact own_ofNatS _ | rfl)
            refine OwnGo.fwd (fun tq' kq' => XS.iinc X104.here hx rfl (hb hby at_78) rfl (l' := #[.val (.int pa), .val (.int pb), .val (.int pc), .val (.int pd), .val (.int pk), .val (.int (4 : Int32)), .val (.ref b101), .val (.int (1 : Int32)), .unset]) rfl kq') ?_
            show OwnGo _ _ _ _ (T104.setTop (mkF m 81 #[.val (.int pa), .val (.int pb), .val (.int pc), .val (.int pd), .val (.int pk), .val (.int (4 : Int32)), .val (.ref b101), .val (.int (1 : Int32)), .unset] []))
            have pq := (iff_of_false (own_pr0 nz_pa) id)
            have hs1 : n1 = 0 + 1 := by
              rcases HP1.2.1 with q | q
              · exact absurd (pq.mp q.1) (by simp [*])
              · exact q.2
            exact J81 _ (by rw [hs1]; first | exact own_ofNatS _ | rfl)
set_option maxRecDepth 65536 in
set_option maxHeartbeats 40000000 in
theorem comes_1 {Post : Tables → Env → Array Value → State → Outcome → State → Prop} (hpost : ∀ tb e args s v u, (limb_1_1.after args s (.returned v) u = true ∧ limb_1_2.after args s (.returned v) u = true ∧ True) → FrameEnd s (.returned v) u (Jvm.fieldLocs frame_1_writes args s ++ Jvm.arrayLocs frame_1_arrays args s ++ Jvm.staticLocs frame_1_statics s) 16 192 → Post tb e args s (.returned v) u) :
    ArmFor flags0 classFile x code maxLocals ret World_1 tables_1 room_1 Calls_1 rest_1 Pre_1 Post := by
  intro l hfl _ _ p e ha hc hk s m args below hf hA hF happ hP
  obtain ⟨hcalls, hrest, hpre⟩ := hP
  obtain ⟨-, -, -, hnamed, -, -, -, hat⟩ := (Spec.applies_iff hf).mp happ
  obtain ⟨hg, hn⟩ := and_e (Cond.before_iff.mp (show (Jvm.Cond.and given_1 narrow_1).before args s = true from hpre))
  obtain ⟨gc, gr0⟩ := and_e hg
  obtain ⟨ga0, gr1⟩ := and_e gr0
  obtain ⟨ga1, gr2⟩ := and_e gr1
  obtain ⟨ga2, gr3⟩ := and_e gr2
  obtain ⟨ga3, gr4⟩ := and_e gr3
  obtain ⟨w0, w1, w2, w3, w4, rfl⟩ : ∃ w0 w1 w2 w3 w4 : Value, args = #[w0, w1, w2, w3, w4] := by
    have hs : args.size = 5 := by simpa [Cond.value, given_1] using gc
    obtain ⟨L⟩ := args
    match L, hs with
    | [w0, w1, w2, w3, w4], _ => exact ⟨w0, w1, w2, w3, w4, rfl⟩
  have hw := fun d (hd : d ∈ tables_1) => atoms_spec (ws := Jvm.Cond.code x code maxLocals ret :: tables_1) hat d (List.mem_cons_of_mem _ hd)
  have hfit : Fit s := fun {y c} hc i hi => by
    obtain ⟨ha, rfl⟩ := Array.getElem?_eq_some_iff.mp hc
    have q := List.all_eq_true.mp ((Array.all_eq_true_iff_forall_mem.mp hF) _ (Array.getElem_mem ha)) i (List.mem_range.mpr hi)
    simpa [Array.getElem?_eq_getElem hi] using q
  obtain ⟨i0, ei0⟩ := is_v ga0
  obtain rfl : w0 = (.int i0) := Option.some.inj ei0
  obtain ⟨i1, ei1⟩ := is_v ga1
  obtain rfl : w1 = (.int i1) := Option.some.inj ei1
  obtain ⟨i2, ei2⟩ := is_v ga2
  obtain rfl : w2 = (.int i2) := Option.some.inj ei2
  obtain ⟨i3, ei3⟩ := is_v ga3
  obtain rfl : w3 = (.int i3) := Option.some.inj ei3
  obtain ⟨i4, ei4⟩ := is_v gr4
  obtain rfl : w4 = (.int i4) := Option.some.inj ei4
  obtain ⟨n, o, h1, h2, h3, _, L, rfl, ⟨rfl, N⟩, hq⟩ := rm0 l s _ hw tables_1 i0 i1 i2 i3 i4 s.heap s.heap.size (Nat.le_refl _) p e ha hc hk s m _ below hf ((Spec.applies_iff_loose hf).mp happ).1 ⟨rfl, State.Warmed39.refl s, rfl⟩ trivial
  refine ⟨n, _, h1, h2, h3, hpost _ _ _ _ _ _ ⟨Cond.after_iff.mpr rfl, Cond.after_iff.mpr (eq_i res_at (Term.int_eval (1)) rfl), trivial⟩ ⟨hq.1, hq.2.1, (hq.2.2.sift fun y hy => Or.inr (N y hy)).mono (by decide) (by decide)⟩⟩
theorem main_1_1 : Claimed_1_1 := comes_1 fun _ _ _ _ _ _ h hF => ⟨h.1, hF⟩
theorem main_1_2 : Claimed_1_2 := comes_1 fun _ _ _ _ _ _ h hF => ⟨h.2.1, hF⟩
end Jvm.Pilot.@@N@@
namespace Jvm.Pilot.@@N@@
open Jvm Jvm.ClassFile Sem Op Lib Jvm.Free Jvm.Stand Jvm.Pilot.@@N@@.Jvm.D
/-! MADE BY PROGRAM (witnessworld.py) out of the Statement's table words and the real class files: 14 classes; the members and pool entries that the words name. The judged class is class 1, her method 1. -/
namespace start1
open Jvm.ClassFile
def u (s : String) : CpInfo := .utf8 (stringToUtf16 s)
/-- a pool by its gaps: so many unusable entries, then the entry; so many at the end -/
def gap : Nat → List CpInfo → List CpInfo
  | 0, r => r
  | n + 1, r => .unusable :: gap n r
def poolList (es : List (Nat × CpInfo)) (last : Nat) : List CpInfo := es.foldr (fun e r => gap e.1 (e.2 :: r)) (gap last [])
def pool (es : List (Nat × CpInfo)) (last : Nat) : Array CpInfo := ⟨poolList es last⟩
def fileOf (pool : Array CpInfo) (this : Nat) (attrs : Array Attribute := #[]) (ms : Array MethodInfo := #[]) (fl : Nat := 33) (sup : Nat := 0) (ifs : Array Nat := #[]) (fds : Array FieldInfo := #[]) : ClassFile where
  minorVersion := 0
  majorVersion := 65
  constantPool := pool
  accessFlags := fl
  thisClass := this
  superClass := sup
  interfaces := ifs
  fields := fds
  methods := ms
  attributes := attrs
def plain (name : String) (sup : Option ClassId) : Class where
  name := name
  kind := .ordinary
  loader := none
  accessFlags := 33
  super := sup
  interfaces := #[]
  cf := none
  fields := #[]
  methods := #[]
  instanceTypes := #[]
  staticTypes := #[]
  resolved := #[]
  callSites := []
  init := .initialized
  statics := none
  mirror := none

def pool0 : Array CpInfo := pool [(5, u "<init>"), (0, u "()V"), (1, .class_ 10), (1, u "java/lang/Object")] 113

def k0c0 : Code := { maxStack := 0, maxLocals := 1, code := object_method_1_code, exceptionTable := #[], attributes := #[] }
def k0m0 : Method := { name := "<init>", desc := "()V", sig := { parameters := [], returnType := none }, accessFlags := 1, code := some k0c0 }
/-- java/lang/Object -/
def k0 : Class := { plain "java/lang/Object" none with
  accessFlags := 33
  interfaces := #[]
  cf := some (fileOf pool0 8 #[] #[{ accessFlags := 1, nameIndex := 5, descriptorIndex := 6, attributes := #[] }] 33 0 #[] #[])
  fields := #[]
  methods := #[k0m0]
  instanceTypes := #[]
  staticTypes := #[]
  resolved := Array.replicate 124 none
  statics := none }

def pool1 : Array CpInfo := pool [(2, .class_ 4), (1, u "java/lang/Object"), (0, u "<init>"), (0, u "()V"), (0, .integer 2147483647), (0, .class_ 9), (0, u "com/example/rolestack/rolestack/NumbersById"), (0, .methodref 8 11), (0, .nameAndType 5 12), (0, u "(I)V"), (0, .methodref 8 14), (0, .nameAndType 15 16), (0, u "put"), (0, u "(II)V"), (0, .methodref 8 18), (0, .nameAndType 19 20), (0, u "ids"), (0, u "()[I"), (0, .methodref 22 23), (0, .class_ 24), (0, .nameAndType 25 26), (0, u "com/example/rolestack/rolestack/NumbersByIdIdsPinLaw"), (0, u "has"), (0, u "([II)Z"), (2, u "law"), (0, u "(IIIII)Z")] 5

def k1m0 : Method := { name := "<init>", desc := "()V", sig := { parameters := [], returnType := none }, accessFlags := 1, code := none }
def k1c1 : Code := { maxStack := 3, maxLocals := 9, code := code, exceptionTable := #[], attributes := #[] }
def k1m1 : Method := { name := "law", desc := "(IIIII)Z", sig := { parameters := [.int, .int, .int, .int, .int], returnType := some .boolean }, accessFlags := 9, code := some k1c1 }
def k1c2 : Code := { maxStack := 2, maxLocals := 2, code := method_3_code, exceptionTable := #[], attributes := #[] }
def k1m2 : Method := { name := "has", desc := "([II)Z", sig := { parameters := [(.array .int), .int], returnType := some .boolean }, accessFlags := 10, code := some k1c2 }
/-- com/example/rolestack/rolestack/NumbersByIdIdsPinLaw -/
def k1 : Class := { plain "com/example/rolestack/rolestack/NumbersByIdIdsPinLaw" (some 0) with
  accessFlags := 49
  interfaces := #[]
  cf := some (fileOf pool1 22 #[] #[{ accessFlags := 1, nameIndex := 5, descriptorIndex := 6, attributes := #[] }, { accessFlags := 9, nameIndex := 29, descriptorIndex := 30, attributes := #[] }, { accessFlags := 10, nameIndex := 25, descriptorIndex := 26, attributes := #[] }] 49 2 #[] #[])
  fields := #[]
  methods := #[k1m0, k1m1, k1m2]
  instanceTypes := #[]
  staticTypes := #[]
  resolved := Array.replicate 36 none
  statics := none }

def pool2 : Array CpInfo := pool [(1, .methodref 2 3), (0, .class_ 4), (0, .nameAndType 5 6), (0, u "java/lang/Object"), (0, u "<init>"), (0, u "()V"), (0, .fieldref 8 9), (0, .class_ 10), (0, .nameAndType 11 12), (0, u "com/example/rolestack/rolestack/NumbersById"), (0, u "ids"), (0, u "[I"), (0, .fieldref 8 14), (0, .nameAndType 15 12), (0, u "numbers"), (0, .methodref 17 18), (0, .class_ 19), (0, .nameAndType 20 21), (0, u "java/lang/Integer"), (0, u "numberOfLeadingZeros"), (0, u "(I)I"), (0, .fieldref 8 23), (0, .nameAndType 24 25), (0, u "shift"), (0, u "I"), (0, .fieldref 8 27), (0, .nameAndType 28 25), (0, u "size"), (0, .methodref 8 30), (0, .nameAndType 31 21), (0, u "hash"), (15, u "(I)V"), (2, u "put"), (0, u "(II)V"), (0, .integer 2654435769), (0, u "LEAST"), (9, u "()[I")] 3

def k2c0 : Code := { maxStack := 3, maxLocals := 2, code := prog_105_method_1_code, exceptionTable := #[], attributes := #[] }
def k2m0 : Method := { name := "<init>", desc := "(I)V", sig := { parameters := [.int], returnType := none }, accessFlags := 0, code := some k2c0 }
def k2c1 : Code := { maxStack := 3, maxLocals := 5, code := prog_105_method_4_code, exceptionTable := #[], attributes := #[] }
def k2m1 : Method := { name := "put", desc := "(II)V", sig := { parameters := [.int, .int], returnType := none }, accessFlags := 0, code := some k2c1 }
def k2c2 : Code := { maxStack := 3, maxLocals := 7, code := prog_105_method_6_code, exceptionTable := #[], attributes := #[] }
def k2m2 : Method := { name := "ids", desc := "()[I", sig := { parameters := [], returnType := some (.array .int) }, accessFlags := 0, code := some k2c2 }
def k2c3 : Code := { maxStack := 2, maxLocals := 2, code := prog_105_method_7_code, exceptionTable := #[], attributes := #[] }
def k2m3 : Method := { name := "hash", desc := "(I)I", sig := { parameters := [.int], returnType := some .int }, accessFlags := 2, code := some k2c3 }
/-- com/example/rolestack/rolestack/NumbersById -/
def k2 : Class := { plain "com/example/rolestack/rolestack/NumbersById" (some 0) with
  accessFlags := 48
  interfaces := #[]
  cf := some (fileOf pool2 8 #[] #[{ accessFlags := 0, nameIndex := 5, descriptorIndex := 47, attributes := #[] }, { accessFlags := 0, nameIndex := 50, descriptorIndex := 51, attributes := #[] }, { accessFlags := 0, nameIndex := 11, descriptorIndex := 63, attributes := #[] }, { accessFlags := 2, nameIndex := 31, descriptorIndex := 21, attributes := #[] }] 48 2 #[] #[{ accessFlags := 24, nameIndex := 53, descriptorIndex := 25, attributes := #[] }, { accessFlags := 18, nameIndex := 11, descriptorIndex := 12, attributes := #[] }, { accessFlags := 18, nameIndex := 15, descriptorIndex := 12, attributes := #[] }, { accessFlags := 18, nameIndex := 24, descriptorIndex := 25, attributes := #[] }, { accessFlags := 2, nameIndex := 28, descriptorIndex := 25, attributes := #[] }])
  fields := #[{ name := "LEAST", type := .int, accessFlags := 24, slot := 0, constantValue := 0 }, { name := "ids", type := (.array .int), accessFlags := 18, slot := 0, constantValue := 0 }, { name := "numbers", type := (.array .int), accessFlags := 18, slot := 1, constantValue := 0 }, { name := "shift", type := .int, accessFlags := 18, slot := 2, constantValue := 0 }, { name := "size", type := .int, accessFlags := 2, slot := 3, constantValue := 0 }]
  methods := #[k2m0, k2m1, k2m2, k2m3]
  instanceTypes := #[(.array .int), (.array .int), .int, .int]
  staticTypes := #[.int]
  resolved := Array.replicate 67 none
  statics := none }

def pool3 : Array CpInfo := pool [(1, .class_ 2), (0, u "java/io/Serializable"), (0, .class_ 4), (0, u "java/lang/Object")] 2

/-- java/io/Serializable -/
def k3 : Class := { plain "java/io/Serializable" (some 0) with
  accessFlags := 1537
  interfaces := #[]
  cf := some (fileOf pool3 1 #[] #[] 1537 3 #[] #[])
  fields := #[]
  methods := #[]
  instanceTypes := #[]
  staticTypes := #[]
  resolved := Array.replicate 7 none
  statics := none }

def pool4 : Array CpInfo := pool [(2, .class_ 4), (1, u "java/lang/Object"), (0, u "<init>"), (0, u "()V"), (1, .class_ 10), (1, u "java/lang/Number"), (2, .class_ 14), (0, u "java/io/Serializable"), (0, u "serialVersionUID"), (0, u "J")] 20

def k4m0 : Method := { name := "<init>", desc := "()V", sig := { parameters := [], returnType := none }, accessFlags := 1, code := none }
/-- java/lang/Number -/
def k4 : Class := { plain "java/lang/Number" (some 0) with
  accessFlags := 1057
  interfaces := #[3]
  cf := some (fileOf pool4 8 #[] #[{ accessFlags := 1, nameIndex := 5, descriptorIndex := 6, attributes := #[] }] 1057 2 #[13] #[{ accessFlags := 26, nameIndex := 15, descriptorIndex := 16, attributes := #[] }])
  fields := #[{ name := "serialVersionUID", type := .long, accessFlags := 26, slot := 0, constantValue := 0 }]
  methods := #[k4m0]
  instanceTypes := #[]
  staticTypes := #[.long]
  resolved := Array.replicate 37 none
  statics := none }

def pool5 : Array CpInfo := pool [(1, .class_ 2), (0, u "java/lang/Comparable"), (0, .class_ 4), (0, u "java/lang/Object")] 7

/-- java/lang/Comparable -/
def k5 : Class := { plain "java/lang/Comparable" (some 0) with
  accessFlags := 1537
  interfaces := #[]
  cf := some (fileOf pool5 1 #[] #[] 1537 3 #[] #[])
  fields := #[]
  methods := #[]
  instanceTypes := #[]
  staticTypes := #[]
  resolved := Array.replicate 12 none
  statics := none }

def pool6 : Array CpInfo := pool [(1, .class_ 2), (0, u "java/lang/constant/Constable"), (0, .class_ 4), (0, u "java/lang/Object")] 6

/-- java/lang/constant/Constable -/
def k6 : Class := { plain "java/lang/constant/Constable" (some 0) with
  accessFlags := 1537
  interfaces := #[]
  cf := some (fileOf pool6 1 #[] #[] 1537 3 #[] #[])
  fields := #[]
  methods := #[]
  instanceTypes := #[]
  staticTypes := #[]
  resolved := Array.replicate 11 none
  statics := none }

def pool7 : Array CpInfo := pool [(1, .class_ 2), (0, u "java/lang/constant/ConstantDesc"), (0, .class_ 4), (0, u "java/lang/Object")] 32

/-- java/lang/constant/ConstantDesc -/
def k7 : Class := { plain "java/lang/constant/ConstantDesc" (some 0) with
  accessFlags := 1537
  interfaces := #[]
  cf := some (fileOf pool7 1 #[] #[] 1537 3 #[] #[])
  fields := #[]
  methods := #[]
  instanceTypes := #[]
  staticTypes := #[]
  resolved := Array.replicate 37 none
  statics := none }

def pool8 : Array CpInfo := pool [(1, .class_ 2), (0, u "java/lang/Integer"), (16, u "digits"), (0, u "[C"), (32, u "numberOfLeadingZeros"), (0, u "(I)I"), (30, u "DigitOnes"), (0, u "[B"), (2, u "DigitTens"), (99, .class_ 190), (0, u "java/lang/Integer$IntegerCache"), (3, u "I"), (8, .class_ 204), (0, u "java/lang/Number"), (2, u "value"), (56, .integer 65536), (37, u "TYPE"), (0, u "Ljava/lang/Class;"), (0, .class_ 305), (0, u "java/lang/Comparable"), (0, .class_ 307), (0, u "java/lang/constant/Constable"), (0, .class_ 309), (0, u "java/lang/constant/ConstantDesc"), (0, u "MIN_VALUE"), (1, u "MAX_VALUE"), (3, u "SIZE"), (1, u "BYTES"), (1, u "serialVersionUID"), (0, u "J")] 131

def k8c0 : Code := { maxStack := 3, maxLocals := 2, code := jdk_33_method_47_code, exceptionTable := #[], attributes := #[] }
def k8m0 : Method := { name := "numberOfLeadingZeros", desc := "(I)I", sig := { parameters := [.int], returnType := some .int }, accessFlags := 9, code := some k8c0 }
/-- java/lang/Integer -/
def k8 : Class := { plain "java/lang/Integer" (some 4) with
  accessFlags := 49
  interfaces := #[5, 6, 7]
  cf := some (fileOf pool8 1 #[.nestMembers #[189]] #[{ accessFlags := 9, nameIndex := 53, descriptorIndex := 54, attributes := #[] }] 49 203 #[304, 306, 308] #[{ accessFlags := 25, nameIndex := 310, descriptorIndex := 194, attributes := #[] }, { accessFlags := 25, nameIndex := 312, descriptorIndex := 194, attributes := #[] }, { accessFlags := 25, nameIndex := 302, descriptorIndex := 303, attributes := #[] }, { accessFlags := 24, nameIndex := 19, descriptorIndex := 20, attributes := #[] }, { accessFlags := 24, nameIndex := 89, descriptorIndex := 86, attributes := #[] }, { accessFlags := 24, nameIndex := 85, descriptorIndex := 86, attributes := #[] }, { accessFlags := 18, nameIndex := 207, descriptorIndex := 194, attributes := #[] }, { accessFlags := 25, nameIndex := 316, descriptorIndex := 194, attributes := #[] }, { accessFlags := 25, nameIndex := 318, descriptorIndex := 194, attributes := #[] }, { accessFlags := 26, nameIndex := 320, descriptorIndex := 321, attributes := #[] }])
  fields := #[{ name := "MIN_VALUE", type := .int, accessFlags := 25, slot := 0, constantValue := 0 }, { name := "MAX_VALUE", type := .int, accessFlags := 25, slot := 1, constantValue := 0 }, { name := "TYPE", type := (.object "java/lang/Class"), accessFlags := 25, slot := 2, constantValue := 0 }, { name := "digits", type := (.array .char), accessFlags := 24, slot := 3, constantValue := 0 }, { name := "DigitTens", type := (.array .byte), accessFlags := 24, slot := 4, constantValue := 0 }, { name := "DigitOnes", type := (.array .byte), accessFlags := 24, slot := 5, constantValue := 0 }, { name := "value", type := .int, accessFlags := 18, slot := 0, constantValue := 0 }, { name := "SIZE", type := .int, accessFlags := 25, slot := 6, constantValue := 0 }, { name := "BYTES", type := .int, accessFlags := 25, slot := 7, constantValue := 0 }, { name := "serialVersionUID", type := .long, accessFlags := 26, slot := 8, constantValue := 0 }]
  methods := #[k8m0]
  instanceTypes := #[.int]
  staticTypes := #[.int, .int, (.object "java/lang/Class"), (.array .char), (.array .byte), (.array .byte), .int, .int, .long]
  resolved := Array.replicate 453 none
  statics := none }

def pool9 : Array CpInfo := pool [(1, u "java/lang/Cloneable"), (0, .class_ 1), (0, u "java/lang/Object"), (0, .class_ 3)] 3

/-- java/lang/Cloneable -/
def k9 : Class := { plain "java/lang/Cloneable" (some 0) with
  accessFlags := 1537
  interfaces := #[]
  cf := some (fileOf pool9 2 #[] #[] 1537 4 #[] #[])
  fields := #[]
  methods := #[]
  instanceTypes := #[]
  staticTypes := #[]
  resolved := Array.replicate 8 none
  statics := none }

/-- the primitive byte -/
def k10 : Class := { plain "byte" none with kind := .primitive 'B', accessFlags := 0x411 }
/-- [B -/
def k11 : Class := { plain "[B" (some 0) with kind := .array 10 .byte, interfaces := #[9, 3], accessFlags := 1041 }

/-- the primitive int -/
def k12 : Class := { plain "int" none with kind := .primitive 'I', accessFlags := 0x411 }
/-- [I -/
def k13 : Class := { plain "[I" (some 0) with kind := .array 12 .int, interfaces := #[9, 3], accessFlags := 1041 }

def heap : Heap := #[]
def classes : Array Class := #[k0, k1, k2, k3, k4, k5, k6, k7, k8, k9, k10, k11, k12, k13]
def interned : List (Array UInt16 × Addr) := []
def slotsUsed : Nat := 0
def theMethod : MethodId := ⟨1, 1⟩
def args0 : Array Value := #[.int 5, .int 7, .int 9, .int 11, .int 4]
def aboutOver (below : List Frame) : State where
  vm := { classes := classes, interned := interned.toArray }
  heap := heap
  slotsUsed := slotsUsed
  threads := #[{ frames := .invoking theMethod args0 :: below }]
def below0 : List Frame := [.native { method := ⟨0, 0⟩, args := #[] }]
def about1 : State := aboutOver below0
def p0 : Program := .bare "" "" ""
def e0 : Env := launch0.env 0 0 0
theorem w_frames : about1.frames = Frame.invoking theMethod args0 :: below0 := rfl
set_option maxRecDepth 65536 in
theorem w_args : argsFit about1.vm theMethod args0 = true := by decide +kernel
set_option maxRecDepth 65536 in
theorem w_heap : heapFits about1 = true := by decide +kernel
set_option maxRecDepth 65536 in
theorem w_runnable : about1.curStatus? = some .runnable := by decide +kernel
set_option maxRecDepth 65536 in
theorem w_alone : about1.alone = true := by decide +kernel
set_option maxRecDepth 65536 in
theorem w_named : about1.methodNamed? x = some theMethod := by decide +kernel
set_option maxRecDepth 65536 in
theorem w_hears : about1.hears theMethod below0 = true := by decide +kernel
set_option maxRecDepth 65536 in
theorem w_ripe : about1.ripe theMethod args0 below0 = true := by decide +kernel
theorem w_running : about1.status = .running := rfl
set_option maxRecDepth 65536 in
theorem w_room : about1.hasRoom e0.platform room_1 = true :=
  launch0.hasRoom_least _ room_1 (by decide +kernel) (by decide +kernel) (by decide +kernel) (by decide +kernel) (by decide +kernel) (by decide +kernel)
theorem allAtoms_all (ts : List Jvm.Cond) (a : Array Jvm.Value) (st : Jvm.State) : (allAtoms ts).before a st = ts.all (fun c => c.before a st) := by
  induction ts with
  | nil => rfl
  | cons c t ih =>
    show (Jvm.Cond.and c (allAtoms t)).before a st = _
    rw [Jvm.Cond.before_and, ih, List.all_cons]
def words1 : List Jvm.Cond := Jvm.Cond.code x code maxLocals ret :: tables_1
/-- a 'code' word, met by the world's own term for the bytes: nothing is compared byte by byte -/
theorem code_word {y : MethodName} {bytes : ByteArray} {mx : Nat} {rt : Option FieldType} {a : Array Value} {s : State} {m : MethodId} {meth : Method} {c : Code} (h1 : s.methodNamed? y = some m) (h2 : s.vm.method? m = some meth) (h3 : meth.code = some c) (h4 : c.code = bytes)
    (h5 : (c.maxLocals == mx && c.exceptionTable.isEmpty && decide (c.maxStack ≤ mostOperands) && decide (meth.sig.returnType = rt) && !meth.locks && decide (parseMethodDescriptor y.desc = some meth.sig)) = true) : (Jvm.Cond.code y bytes mx rt).before a s = true := by
  simp only [Bool.and_eq_true, beq_iff_eq, Bool.not_eq_true', decide_eq_true_eq] at h5
  obtain ⟨⟨⟨⟨⟨g1, g2⟩, g3⟩, g4⟩, g5⟩, g6⟩ := h5
  simp [Cond.before, Cond.holds, Cond.value, h1, h2, h3, h4, g1, g2, g3, g4, g5, g6]
def isCode : Jvm.Cond → Bool
  | .code _ _ _ _ => true
  | _ => false
theorem all_split {L : List Jvm.Cond} {P : Jvm.Cond → Bool} (h1 : L.all (fun c => isCode c || P c) = true) (h2 : ∀ c ∈ L.filter isCode, P c = true) : L.all P = true := by
  refine List.all_eq_true.mpr fun c hc => ?_
  have h := List.all_eq_true.mp h1 c hc
  rcases Bool.eq_false_or_eq_true (isCode c) with hi | hi
  · exact h2 c (List.mem_filter.mpr ⟨hc, hi⟩)
  · simpa [hi] using h
set_option maxRecDepth 65536 in
theorem w_c0 : (Jvm.Cond.code x code maxLocals ret).before args0 about1 = true := code_word (m := ⟨1, 1⟩) (meth := k1m1) (c := k1c1) (by decide +kernel) rfl rfl rfl (by decide +kernel)
set_option maxRecDepth 65536 in
theorem w_c1 : (Jvm.Cond.code ({ cls := "com/example/rolestack/rolestack/NumbersById", name := "<init>", desc := "(I)V" } : Jvm.MethodName) prog_105_method_1_code (2 : Nat) (Option.none : Option Jvm.ClassFile.FieldType)).before args0 about1 = true := code_word (m := ⟨2, 0⟩) (meth := k2m0) (c := k2c0) (by decide +kernel) rfl rfl rfl (by decide +kernel)
set_option maxRecDepth 65536 in
theorem w_c2 : (Jvm.Cond.code ({ cls := "java/lang/Object", name := "<init>", desc := "()V" } : Jvm.MethodName) object_method_1_code (1 : Nat) (Option.none : Option Jvm.ClassFile.FieldType)).before args0 about1 = true := code_word (m := ⟨0, 0⟩) (meth := k0m0) (c := k0c0) (by decide +kernel) rfl rfl rfl (by decide +kernel)
set_option maxRecDepth 65536 in
theorem w_c3 : (Jvm.Cond.code ({ cls := "java/lang/Integer", name := "numberOfLeadingZeros", desc := "(I)I" } : Jvm.MethodName) jdk_33_method_47_code (2 : Nat) (Option.some Jvm.ClassFile.FieldType.int)).before args0 about1 = true := code_word (m := ⟨8, 0⟩) (meth := k8m0) (c := k8c0) (by decide +kernel) rfl rfl rfl (by decide +kernel)
set_option maxRecDepth 65536 in
theorem w_c4 : (Jvm.Cond.code ({ cls := "com/example/rolestack/rolestack/NumbersById", name := "ids", desc := "()[I" } : Jvm.MethodName) prog_105_method_6_code (7 : Nat) (Option.some (Jvm.ClassFile.FieldType.array Jvm.ClassFile.FieldType.int))).before args0 about1 = true := code_word (m := ⟨2, 2⟩) (meth := k2m2) (c := k2c2) (by decide +kernel) rfl rfl rfl (by decide +kernel)
set_option maxRecDepth 65536 in
theorem w_c5 : (Jvm.Cond.code ({ cls := "com/example/rolestack/rolestack/NumbersById", name := "put", desc := "(II)V" } : Jvm.MethodName) prog_105_method_4_code (5 : Nat) (Option.none : Option Jvm.ClassFile.FieldType)).before args0 about1 = true := code_word (m := ⟨2, 1⟩) (meth := k2m1) (c := k2c1) (by decide +kernel) rfl rfl rfl (by decide +kernel)
set_option maxRecDepth 65536 in
theorem w_c6 : (Jvm.Cond.code ({ cls := "com/example/rolestack/rolestack/NumbersById", name := "hash", desc := "(I)I" } : Jvm.MethodName) prog_105_method_7_code (2 : Nat) (Option.some Jvm.ClassFile.FieldType.int)).before args0 about1 = true := code_word (m := ⟨2, 3⟩) (meth := k2m3) (c := k2c3) (by decide +kernel) rfl rfl rfl (by decide +kernel)
set_option maxRecDepth 65536 in
theorem w_c7 : (Jvm.Cond.code ({ cls := "com/example/rolestack/rolestack/NumbersByIdIdsPinLaw", name := "has", desc := "([II)Z" } : Jvm.MethodName) method_3_code (2 : Nat) (Option.some Jvm.ClassFile.FieldType.boolean)).before args0 about1 = true := code_word (m := ⟨1, 2⟩) (meth := k1m2) (c := k1c2) (by decide +kernel) rfl rfl rfl (by decide +kernel)
def codes1 : List Jvm.Cond := [Jvm.Cond.code x code maxLocals ret, Jvm.Cond.code ({ cls := "com/example/rolestack/rolestack/NumbersById", name := "<init>", desc := "(I)V" } : Jvm.MethodName) prog_105_method_1_code (2 : Nat) (Option.none : Option Jvm.ClassFile.FieldType), Jvm.Cond.code ({ cls := "java/lang/Object", name := "<init>", desc := "()V" } : Jvm.MethodName) object_method_1_code (1 : Nat) (Option.none : Option Jvm.ClassFile.FieldType), Jvm.Cond.code ({ cls := "java/lang/Integer", name := "numberOfLeadingZeros", desc := "(I)I" } : Jvm.MethodName) jdk_33_method_47_code (2 : Nat) (Option.some Jvm.ClassFile.FieldType.int), Jvm.Cond.code ({ cls := "com/example/rolestack/rolestack/NumbersById", name := "ids", desc := "()[I" } : Jvm.MethodName) prog_105_method_6_code (7 : Nat) (Option.some (Jvm.ClassFile.FieldType.array Jvm.ClassFile.FieldType.int)), Jvm.Cond.code ({ cls := "com/example/rolestack/rolestack/NumbersById", name := "put", desc := "(II)V" } : Jvm.MethodName) prog_105_method_4_code (5 : Nat) (Option.none : Option Jvm.ClassFile.FieldType), Jvm.Cond.code ({ cls := "com/example/rolestack/rolestack/NumbersById", name := "hash", desc := "(I)I" } : Jvm.MethodName) prog_105_method_7_code (2 : Nat) (Option.some Jvm.ClassFile.FieldType.int), Jvm.Cond.code ({ cls := "com/example/rolestack/rolestack/NumbersByIdIdsPinLaw", name := "has", desc := "([II)Z" } : Jvm.MethodName) method_3_code (2 : Nat) (Option.some Jvm.ClassFile.FieldType.boolean)]
set_option maxRecDepth 65536 in
theorem codes_eq : words1.filter isCode = codes1 := rfl
theorem w_codes : ∀ c ∈ words1.filter isCode, c.before args0 about1 = true := by
  rw [codes_eq]
  intro c hc
  simp only [codes1, List.mem_cons, List.not_mem_nil, or_false] at hc
  rcases hc with rfl | rfl | rfl | rfl | rfl | rfl | rfl | rfl
  · exact w_c0
  · exact w_c1
  · exact w_c2
  · exact w_c3
  · exact w_c4
  · exact w_c5
  · exact w_c6
  · exact w_c7
set_option maxRecDepth 65536 in
theorem w_t1 : (words1.take 24).all (fun c => isCode c || c.before args0 about1) = true := by decide +kernel
set_option maxRecDepth 65536 in
theorem w_t2 : (words1.drop 24).all (fun c => isCode c || c.before args0 about1) = true := by decide +kernel
theorem w_tables : (allAtoms (Jvm.Cond.code x code maxLocals ret :: tables_1)).before args0 about1 = true := by
  rw [allAtoms_all]
  show words1.all (fun c => c.before args0 about1) = true
  refine all_split ?_ w_codes
  rw [← List.take_append_drop 24 words1, List.all_append, w_t1, w_t2]
  rfl
set_option maxRecDepth 65536 in
theorem w_case : (Jvm.Cond.and given_1 narrow_1).before args0 about1 = true := by decide +kernel
theorem w_applies : (headSpec (Jvm.Cond.code x code maxLocals ret :: tables_1) room_1).applies x e0.platform about1 = true :=
  (Spec.applies_iff w_frames).mpr ⟨w_running, w_runnable, w_alone, w_named, w_hears, w_ripe, w_room, w_tables⟩
theorem atStart : AtStart classFile x code maxLocals ret World_1 tables_1 room_1 Calls_1 rest_1 Pre_1 launch0 p0 e0 about1 theMethod args0 below0 :=
  ⟨lists_1, trivial, launch0.admits_env _ _ _, launch0.least_env, fairChoices_fair.cas, fairChoices_fair.clock, w_frames, w_args, w_heap, w_applies, trivial, trivial, w_case⟩
end start1
theorem witness_1 : WitnessClaimed_1 := ⟨start1.p0, start1.e0, start1.about1, start1.theMethod, start1.args0, start1.below0, start1.atStart⟩
end Jvm.Pilot.@@N@@
