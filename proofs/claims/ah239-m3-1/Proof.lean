import JvmDerived
import JvmDerived.Pilot.@@N@@Statement
import JvmDerived.Pilot.@@N@@Code
set_option linter.unusedVariables false
set_option linter.unusedSimpArgs false
namespace Jvm.RoadKit
open Sem ClassFile Op Lib Jvm.Stand Jvm.Free Jvm.LawKit
/-- own: from A the walk comes to its end, and there R holds -/
def OwnGo (tb : Tables) (e : Env) (below : List Frame) (R : State → Outcome → Prop) (A : State) : Prop := ∃ s₂ o, Steps tb e below A s₂ ∧ s₂.status = .running ∧ Ended s₂ below o ∧ R s₂ o
theorem OwnGo.fwd {tb : Tables} {e : Env} {below : List Frame} {R : State → Outcome → Prop} {A B : State} (h : ∀ t, Steps tb e below B t → Steps tb e below A t) (k : OwnGo tb e below R B) : OwnGo tb e below R A := by
  obtain ⟨s, o, h1, h2⟩ := k
  exact ⟨s, o, h s h1, h2⟩
theorem OwnGo.thru {tb : Tables} {e : Env} {below : List Frame} {R : State → Outcome → Prop} {A B : State} (h : Steps tb e below A B) (k : OwnGo tb e below R B) : OwnGo tb e below R A := k.fwd fun _ q => h.trans q
/-- own: what a body leaves -/
def OwnEnd (s : State) (Q : Option Value → Heap → List Loc → Prop) (k n : Nat) : State → Outcome → Prop := fun U o => ∃ v L, o = .returned v ∧ Q v U.heap L ∧ FrameEnd s o U L k n
section OwnLeaf
variable {p : Program} {l : Launch} {e : Env} {R : Room} {s : State} {m : MethodId} {args : Array Value} {below : List Frame} {meth : Method} {c : Code} {T : State} {locs : List Loc} {cells slots : Nat} {Z : State} {a0 : Array Value} {h : Heap} {Q : Option Value → Heap → List Loc → Prop} {k n : Nat}
theorem own_leaf (X : Stand p l e R s m args below meth c T locs cells slots) (hlk : meth.locks = false) {v : Option Value} (hv : meth.sig.returnType = none → v = none) {g : JFrame} (hc : cells ≤ k) (hs : slots ≤ n) (eT : T.heap = h) (hQ : Q v h locs)
    (hl : ∀ fs, (∀ (f : JFrame) (acts : List Action), f.method = m → f.locked = none → f.entered = [] → (doReturn e (T.setTop f) acts v).1 = T.setFrames fs) → Steps p.tables e below (T.setTop g) (T.setFrames fs)) :
    OwnGo p.tables e below (OwnEnd s Q k n) (T.setTop g) := by
  obtain ⟨fs, hr, hrun, hended, hW, hsame⟩ := X.leave (v := v) hv hlk
  refine ⟨_, _, hl fs hr, hrun, hended, _, _, rfl, ?_, ⟨_, rfl⟩, hW, hsame.mono hc hs⟩
  show Q v T.heap locs
  rw [eT]; exact hQ
theorem own_retI (X : Stand p l e R s m args below meth c T locs cells slots) (hlk : meth.locks = false) (hx : p.tables.exec = Jvm.exec) {pc : Nat} {Ls : Array Slot} {z : Int32} {rest : List Value} (hret : meth.sig.returnType = some .int) (hd : decode c.code pc = .ok (.ireturn, 1)) (hc : cells ≤ k) (hs : slots ≤ n) (eT : T.heap = h) (hQ : Q (some (.int z)) h locs) :
    OwnGo p.tables e below (OwnEnd s Q k n) (T.setTop (mkF m pc Ls (.int z :: rest))) := by
  refine own_leaf X hlk (fun q => by rw [hret] at q; cases q) hc hs eT hQ fun fs hl => ?_
  have hm' : T.vm.method? m = some meth := X.method'
  have hn : narrow .int (.int z) = .int z := rfl
  show Steps p.tables e below (T.setTop { method := m, pc := pc, locals := Ls, stack := _ :: rest, locked := none }) _
  jvm_step X.here [X.here.top, hx, hd, hm', hret, hn]
  first | (intro acts; rw [hl _ acts rfl rfl rfl]) | rw [hl _ _ rfl rfl rfl]
  exact Steps.refl _
theorem own_retZ (X : Stand p l e R s m args below meth c T locs cells slots) (hlk : meth.locks = false) (hx : p.tables.exec = Jvm.exec) {pc : Nat} {Ls : Array Slot} {z : Int32} {rest : List Value} (hret : meth.sig.returnType = some .boolean) (hd : decode c.code pc = .ok (.ireturn, 1)) (hc : cells ≤ k) (hs : slots ≤ n) (eT : T.heap = h) (hQ : Q (some (.int (nar .boolean z))) h locs) :
    OwnGo p.tables e below (OwnEnd s Q k n) (T.setTop (mkF m pc Ls (.int z :: rest))) :=
  own_leaf X hlk (fun q => by rw [hret] at q; cases q) hc hs eT hQ fun fs hl => retN X hx (t := .boolean) hret (by simp) hd hl
theorem own_retJ (X : Stand p l e R s m args below meth c T locs cells slots) (hlk : meth.locks = false) (hx : p.tables.exec = Jvm.exec) {pc : Nat} {Ls : Array Slot} {z : Int64} (hret : meth.sig.returnType = some .long) (hd : decode c.code pc = .ok (.lreturn, 1)) (hc : cells ≤ k) (hs : slots ≤ n) (eT : T.heap = h) (hQ : Q (some (.long z)) h locs) :
    OwnGo p.tables e below (OwnEnd s Q k n) (T.setTop (mkF m pc Ls [.long z])) :=
  own_leaf X hlk (fun q => by rw [hret] at q; cases q) hc hs eT hQ fun fs hl => X.lreturnOut hx hret hd hl
theorem own_retV (X : Stand p l e R s m args below meth c T locs cells slots) (hlk : meth.locks = false) (hx : p.tables.exec = Jvm.exec) {pc : Nat} {Ls : Array Slot} (hret : meth.sig.returnType = none) (hd : decode c.code pc = .ok (.return_, 1)) (hc : cells ≤ k) (hs : slots ≤ n) (eT : T.heap = h) (hQ : Q none h locs) :
    OwnGo p.tables e below (OwnEnd s Q k n) (T.setTop (mkF m pc Ls [])) :=
  own_leaf X hlk (fun _ => rfl) hc hs eT hQ fun fs hl => X.returnOut hx hret hd hl
theorem own_retA (X : Stand p l e R s m args below meth c T locs cells slots) (hlk : meth.locks = false) (hx : p.tables.exec = Jvm.exec) {pc : Nat} {Ls : Array Slot} {w : Value} {rest : List Value} {t : FieldType} (hret : meth.sig.returnType = some t) (ht : t.isReference = true) (hw : w.isRef = true) (hd : decode c.code pc = .ok (.areturn, 1)) (hc : cells ≤ k) (hs : slots ≤ n) (eT : T.heap = h) (hQ : Q (some w) h locs) :
    OwnGo p.tables e below (OwnEnd s Q k n) (T.setTop (mkF m pc Ls (w :: rest))) :=
  own_leaf X hlk (fun q => by rw [hret] at q; cases q) hc hs eT hQ fun fs hl => retOut X hx hret (by cases t <;> first | (cases ht; done) | rfl) (Or.inr (Or.inr (Or.inr (Or.inr ⟨rfl, ht, hw⟩)))) hd hl
/-! own: int arrays, by a function of the place -/
def OwnIA (Z : State) (h : Heap) (a : Addr) (n : Nat) (f : Nat → Int32) : Prop := ∃ c : Cell, Arr Z h a c .int ∧ c.slots.size = n ∧ n < 2147483648 ∧ ∀ i, i < n → c.slots[i]? = some (.int (f i))
theorem OwnIA.lt {a : Addr} {n : Nat} {f : Nat → Int32} (F : OwnIA Z h a n f) : a < h.size := by obtain ⟨c, A, -⟩ := F; exact A.lt
theorem OwnIA.ext {h' : Heap} {a : Addr} {n : Nat} {f : Nat → Int32} (F : OwnIA Z h a n f) (E : Ext h h') : OwnIA Z h' a n f := by obtain ⟨c, A, r⟩ := F; exact ⟨c, A.ext E, r⟩
theorem OwnIA.other {h' : Heap} {a b : Addr} {n sl : Nat} {v : Value} {f : Nat → Int32} (F : OwnIA Z h b n f) (W : Wr h h' a sl v) (q : b ≠ a) : OwnIA Z h' b n f := by obtain ⟨c, A, r⟩ := F; exact ⟨c, A.other W q, r⟩
theorem OwnIA.keep {h' : Heap} {ws : List Addr} {a : Addr} {n : Nat} {f : Nat → Int32} (F : OwnIA Z h a n f) (K : Keep h h' ws) (q : a ∉ ws) : OwnIA Z h' a n f := by obtain ⟨c, A, r⟩ := F; exact ⟨c, ⟨K.2.1 a c A.1 q, A.2⟩, r⟩
theorem OwnIA.eqv {a : Addr} {n : Nat} {f f' : Nat → Int32} (F : OwnIA Z h a n f) (q : ∀ i, i < n → f i = f' i) : OwnIA Z h a n f' := by obtain ⟨c, A, r1, r2, r3⟩ := F; exact ⟨c, A, r1, r2, fun i hi => by rw [r3 i hi, q i hi]⟩
theorem own_clamp {j : Int32} {i : Nat} (hj : j.toInt = i) : j.toNatClampNeg = i := by simp only [Int32.toNatClampNeg]; omega
theorem own_inb {c : Cell} {j : Int32} {i n : Nat} (S : c.slots.size = n) (hj : j.toInt = i) (hi : i < n) : ¬ (j < 0 ∨ c.slots.size ≤ j.toNatClampNeg) := by
  rw [own_clamp hj, S]; simp only [Int32.lt_iff_toInt_lt, Int32.reduceToInt]; omega
theorem OwnIA.new {a : Addr} {k : ClassId} {z : Int32} {i : Nat} (A : Arr Z h a (newA k .int z) .int) (hz : z.toInt = i) : OwnIA Z h a i (fun _ => 0) := by
  have q := own_clamp hz
  have r := rng32 z
  exact ⟨_, A, by rw [sz_new]; exact q, by omega, fun j hj => by simp [newA, q, hj, defaultValue]⟩
theorem own_len (X : Stand p l e R s m args below meth c T locs cells slots) (hx : p.tables.exec = Jvm.exec) (hZ : Z.Warmed39 s.vm) (eT : T.heap = h) {a : Addr} {n : Nat} {f : Nat → Int32} (V : OwnIA Z h a n f) {g : JFrame} (hg : g.method = m) {rest : List Value} (hs : g.stack = .ref a :: rest) (hd : decode c.code g.pc = .ok (.arraylength, 1)) :
    ∀ target, Steps p.tables e below (T.setTop { g with pc := g.pc + 1, stack := .int (Int32.ofNat n) :: rest }) target → Steps p.tables e below (T.setTop g) target := by
  obtain ⟨cl, A, S, -⟩ := V
  subst S
  exact X.arraylength hx (by rw [eT]; exact A.1) (State.isArrayOf_alike hZ.alike A.2.1) hg hs hd
theorem own_iaload (X : Stand p l e R s m args below meth c T locs cells slots) (hx : p.tables.exec = Jvm.exec) (hZ : Z.Warmed39 s.vm) (eT : T.heap = h) {a : Addr} {n : Nat} {f : Nat → Int32} (V : OwnIA Z h a n f) {j : Int32} {i : Nat} (hj : j.toInt = i) (hi : i < n) {g : JFrame} (hg : g.method = m) {rest : List Value} (hs : g.stack = .int j :: .ref a :: rest) (hd : decode c.code g.pc = .ok (.iaload, 1)) :
    ∀ target, Steps p.tables e below (T.setTop { g with pc := g.pc + 1, stack := .int (f i) :: rest }) target → Steps p.tables e below (T.setTop g) target := by
  obtain ⟨cl, A, S, -, H⟩ := V
  exact X.iaload hx (by rw [eT]; exact A.1) (State.isArrayOf_alike hZ.alike A.2.1) A.2.2 (own_inb S hj hi) (by rw [own_clamp hj]; exact H i hi) hg hs hd
theorem own_iastore (X : Stand p l e R s m args below meth c T locs cells slots) (hx : p.tables.exec = Jvm.exec) (hZ : Z.Warmed39 s.vm) (eT : T.heap = h) {a : Addr} {n : Nat} {f : Nat → Int32} (V : OwnIA Z h a n f) {j x : Int32} {i : Nat} (hj : j.toInt = i) (hi : i < n) {g : JFrame} (hg : g.method = m) {rest : List Value} (hs : g.stack = .int x :: .int j :: .ref a :: rest) (hd : decode c.code g.pc = .ok (.iastore, 1)) :
    ∃ T' h', Stand p l e R s m args below meth c T' (locs ++ [⟨a, i⟩]) cells slots ∧ T'.heap = h' ∧ Wr h h' a i (.int x) ∧ OwnIA Z h' a n (fun k => if k = i then x else f k) ∧ ∀ target, Steps p.tables e below (T'.setTop { g with pc := g.pc + 1, stack := rest }) target → Steps p.tables e below (T.setTop g) target := by
  obtain ⟨cl, A, S, N, H⟩ := V
  obtain ⟨T', h', X', e', W, st⟩ := stI X hx hZ eT A (own_inb S hj hi) hg hs hd
  rw [own_clamp hj] at X' W
  refine ⟨T', h', X', e', W, ⟨_, A.same W, by rw [sz_set]; exact S, N, fun k hk => ?_⟩, st⟩
  by_cases q : k = i
  · subst q; simp [Cell.setSlot, S, hk]
  · simp only [Cell.setSlot, if_neg q]; rw [Array.getElem?_setIfInBounds_ne (Ne.symm q)]; exact H k hk
theorem own_newI (X : Stand p l e R s m args below meth c T locs cells slots) (hx : p.tables.exec = Jvm.exec) (hZ : Z.Warmed39 s.vm) (w : (Cond.arrayClass .int).before a0 Z = true) (eT : T.heap = h) {g : JFrame} (hg : g.method = m) (hd : decode c.code g.pc = .ok (.newarray .int, 2)) {z : Int32} {i : Nat} {rest : List Value} (hs : g.stack = .int z :: rest)
    (hz : z.toInt = i) {cap : Nat} (hcap : i ≤ cap) (hb : cap * 8 ≤ 536870912) (hc : cells + 1 ≤ R.cells) (hl : slots + cap ≤ R.slots) :
    ∃ T' h' a, Stand p l e R s m args below meth c T' locs (cells + 1) (slots + cap) ∧ T'.heap = h' ∧ Ext h h' ∧ a = h.size ∧ OwnIA Z h' a i (fun _ => 0) ∧ ∀ target, Steps p.tables e below (T'.setTop { g with pc := g.pc + 2, stack := .ref a :: rest }) target → Steps p.tables e below (T.setTop g) target := by
  have q := own_clamp hz
  obtain ⟨T', h', cA, X', e', E, A, st⟩ := newP X hx hZ (aty := .int) w eT hg hd hs (by simp only [Int32.lt_iff_toInt_lt, Int32.reduceToInt]; omega) (cap := cap) (by omega) hb hc hl
  exact ⟨T', h', _, X', e', E, rfl, OwnIA.new A hz, st⟩
end OwnLeaf
/-! own: branches, by the ints' own numbers -/
theorem own_blt {x y : Int32} {a b : Int} (hx : x.toInt = a) (hy : y.toInt = b) (h : a < b) : if_icmp.holds .lt x y = true ∧ if_icmp.holds .ge x y = false ∧ if_icmp.holds .gt y x = true ∧ if_icmp.holds .le y x = false := tlt (by rw [Int32.lt_iff_toInt_lt]; omega)
theorem own_bnlt {x y : Int32} {a b : Int} (hx : x.toInt = a) (hy : y.toInt = b) (h : ¬ a < b) : if_icmp.holds .lt x y = false ∧ if_icmp.holds .ge x y = true ∧ if_icmp.holds .gt y x = false ∧ if_icmp.holds .le y x = true := flt (by rw [Int32.lt_iff_toInt_lt]; omega)
theorem own_beq {x y : Int32} {a b : Int} (hx : x.toInt = a) (hy : y.toInt = b) (h : a = b) : if_icmp.holds .eq x y = true ∧ if_icmp.holds .ne x y = false := teq (Int32.toInt_inj.mp (by omega))
theorem own_bneq {x y : Int32} {a b : Int} (hx : x.toInt = a) (hy : y.toInt = b) (h : ¬ a = b) : if_icmp.holds .eq x y = false ∧ if_icmp.holds .ne x y = true := feq fun q => h (by rw [← hx, ← hy, q])
theorem own_Llt {x y : Int64} {a b : Int} (hx : x.toInt = a) (hy : y.toInt = b) (h : a < b) : ifCond.holds .lt (lcmpW x y) = true ∧ ifCond.holds .ge (lcmpW x y) = false := by
  have q : x < y := by rw [Int64.lt_iff_toInt_lt]; omega
  rw [if0, if0]; exact ⟨(tlt ((lw_lt x y).mpr q)).1, (tlt ((lw_lt x y).mpr q)).2.1⟩
theorem own_Lnlt {x y : Int64} {a b : Int} (hx : x.toInt = a) (hy : y.toInt = b) (h : ¬ a < b) : ifCond.holds .lt (lcmpW x y) = false ∧ ifCond.holds .ge (lcmpW x y) = true := by
  have q : ¬ x < y := by rw [Int64.lt_iff_toInt_lt]; omega
  rw [if0, if0]; exact ⟨(flt (fun r => q ((lw_lt x y).mp r))).1, (flt (fun r => q ((lw_lt x y).mp r))).2.1⟩
theorem own_Lgt {x y : Int64} {a b : Int} (hx : x.toInt = a) (hy : y.toInt = b) (h : b < a) : ifCond.holds .gt (lcmpW x y) = true ∧ ifCond.holds .le (lcmpW x y) = false := by
  have q : y < x := by rw [Int64.lt_iff_toInt_lt]; omega
  rw [if0, if0]; exact ⟨(tlt ((lw_gt x y).mpr q)).2.2.1, (tlt ((lw_gt x y).mpr q)).2.2.2⟩
theorem own_Lngt {x y : Int64} {a b : Int} (hx : x.toInt = a) (hy : y.toInt = b) (h : ¬ b < a) : ifCond.holds .gt (lcmpW x y) = false ∧ ifCond.holds .le (lcmpW x y) = true := by
  have q : ¬ y < x := by rw [Int64.lt_iff_toInt_lt]; omega
  rw [if0, if0]; exact ⟨(flt (fun r => q ((lw_gt x y).mp r))).2.2.1, (flt (fun r => q ((lw_gt x y).mp r))).2.2.2⟩
theorem own_Leq {x y : Int64} {a b : Int} (hx : x.toInt = a) (hy : y.toInt = b) (h : a = b) : ifCond.holds .eq (lcmpW x y) = true ∧ ifCond.holds .ne (lcmpW x y) = false := by
  have q : x = y := Int64.toInt_inj.mp (by omega)
  rw [if0, if0]; exact teq ((lw_eq x y).mpr q)
theorem own_Lneq {x y : Int64} {a b : Int} (hx : x.toInt = a) (hy : y.toInt = b) (h : ¬ a = b) : ifCond.holds .eq (lcmpW x y) = false ∧ ifCond.holds .ne (lcmpW x y) = true := by
  have q : ¬ x = y := fun r => h (by rw [← hx, ← hy, r])
  rw [if0, if0]; exact feq fun r => q ((lw_eq x y).mp r)
theorem own_ofNat {i : Nat} (h : i < 2147483648) : (Int32.ofNat i).toInt = (i : Int) := Int32.toInt_ofNat_small h
theorem own_ofNatS (i : Nat) : Int32.ofNat i + 1 = Int32.ofNat (i + 1) := (Int32.ofNat_add i 1).symm
theorem own_fieldInt {args : Array Value} {s : State} {t : Term} {C n d : String} {k : Int32} {w : Addr} (ht : t.eval args s none [] s = some (.ref w)) (h : (Jvm.Cond.eq (.field t C n d) (.int k)).value args s none s [] = some true) : Fld s s.heap w C n d (.int k) := by
  apply Fld.start
  obtain ⟨x, y, hx, hy, -, k2⟩ := cmp_v (Or.inl h)
  have hy' : y = .int k := Option.some.inj (hy.symm.trans (Term.int_eval k))
  subst hy'
  obtain ⟨z, rfl⟩ : ∃ z, x = .int z := k2
  have q := gotT (Cond.eq_ints hx hy) h
  subst q
  rw [← fld_at ht]; exact hx
end Jvm.RoadKit
namespace Jvm.RoadKit
open Sem ClassFile Op Lib Jvm.Stand Jvm.Free Jvm.LawKit
section OwnCopy
variable {p : Program} {l : Launch} {e : Env} {R : Room} {s : State} {m : MethodId} {args : Array Value} {below : List Frame} {meth : Method} {c : Code} {T : State} {locs : List Loc} {cells slots : Nat} {Z : State} {a0 : Array Value} {h : Heap}
theorem own_getD (n : Nat) (f : Nat → Int32) (i : Nat) (hi : i < n) : ((List.range n).map fun i => Value.int (f i)).getD i (.int 0) = .int (f i) := by
  rw [List.getD_eq_getElem?_getD, List.getElem?_map, List.getElem?_range hi]; rfl
theorem OwnIA.arv {a : Addr} {n : Nat} {f : Nat → Int32} (F : OwnIA Z h a n f) : ∃ k, Arv Z h a k .int (Int32.ofNat n) ((List.range n).map fun i => Value.int (f i)) (.int 0) := by
  obtain ⟨c, A, S, N, H⟩ := F
  have e := own_ofNat N
  refine ⟨c.cls, c, A, rfl, by rw [S, own_clamp e], by simp only [Int32.lt_iff_toInt_lt, Int32.reduceToInt]; omega, fun k hk => ?_, fun i hi => ?_⟩
  · rw [own_getD n f k (by omega)]; exact H k (by omega)
  · rw [own_getD n f i (by omega)]; rfl
theorem OwnIA.ofArv {a : Addr} {k : ClassId} {z : Int32} {vs : List Value} {dv : Value} {n : Nat} {f : Nat → Int32} (F : Arv Z h a k .int z vs dv) (hz : z.toInt = n) (q : ∀ i, i < n → vs.getD i dv = .int (f i)) : OwnIA Z h a n f := by
  obtain ⟨c, A, -, S, -, H, -⟩ := F
  have r := rng32 z
  rw [own_clamp hz] at S
  exact ⟨c, A, S, by omega, fun i hi => by rw [← q i hi]; exact H i (by omega)⟩
theorem own_cpI (X : Stand p l e R s m args below meth c T locs cells slots) (hx : p.tables.exec = Jvm.exec) (hZ : Z.Warmed39 s.vm) {own : String} {index : Nat} (hown : s.vm.findClass own = some m.cls)
    (w1 : (Cond.methodLink own index Jvm.Stand.acN).before a0 Z = true) (w2 : (Cond.native Jvm.Stand.acN).before a0 Z = true) (w3 : (Cond.static Jvm.Stand.acN).before a0 Z = true) (w4 : (Cond.initialized "java/lang/System").before a0 Z = true) (eT : T.heap = h)
    {a b : Addr} {n k : Nat} {f u : Nat → Int32} (A : OwnIA Z h a n f) (B : OwnIA Z h b k u) {nn : Int32} {q : Nat} (hq : nn.toInt = q) (h4 : q ≤ n) (h5 : q ≤ k) {n0 : Nat} (N : Fr n0 locs) (ge : n0 ≤ b)
    {g : JFrame} (hg : g.method = m) (hsize : g.locals.size = c.maxLocals) {rest : List Value} (hs : g.stack = .int nn :: .int 0 :: .ref b :: .int 0 :: .ref a :: rest) (hd : decode c.code g.pc = .ok (.invokestatic index, 3))
    (hf : 1 ≤ R.frames) {W : Nat} (hW : 2 * g.monitorRoom + (rest.map fun v => v.category).sum ≤ W) (hlo : W + (nativeFrameWords "java/lang/System" "arraycopy" 5 + 11) ≤ R.locals) :
    ∃ T' h' L, Stand p l e R s m args below meth c T' L cells slots ∧ T'.heap = h' ∧ Fr n0 L ∧ Keep h h' [b] ∧ OwnIA Z h' b k (fun i => if i < q then f i else u i) ∧
      ∀ target, Steps p.tables e below (T'.setTop { g with pc := g.pc + 3, stack := rest }) target → Steps p.tables e below (T.setTop g) target := by
  have hn : n < 2147483648 := by obtain ⟨_, _, _, r, _⟩ := A; exact r
  have hk : k < 2147483648 := by obtain ⟨_, _, _, r, _⟩ := B; exact r
  obtain ⟨ka, A⟩ := A.arv
  obtain ⟨kb, B⟩ := B.arv
  have c0 : (0 : Int32).toNatClampNeg = 0 := by decide
  have cq := own_clamp hq
  obtain ⟨T', h', L, X', e', N', K, V, st⟩ := cpA X hx hZ hown w1 w2 w3 w4 eT (sp := 0) (dp := 0) (nn := nn) A B (Or.inl ⟨rfl, rfl⟩) (by decide) (by decide) (by simp only [Int32.lt_iff_toInt_lt, Int32.reduceToInt]; omega) (by rw [c0, cq, own_clamp (own_ofNat hn)]; omega) (by rw [c0, cq, own_clamp (own_ofNat hk)]; omega) rfl (by rw [c0, cq]; simp; exact h5) N ge hg hsize hs hd hf hW hlo
  refine ⟨T', h', L, X', e', N', K, OwnIA.ofArv V (own_ofNat hk) fun i hi => ?_, st⟩
  rw [c0, cq, List.take_zero, List.nil_append, Nat.zero_add, List.getD_eq_getElem?_getD]
  by_cases r : i < q
  · rw [List.getElem?_append_left (by simpa using r), List.getElem?_map, List.getElem?_range r, if_pos r]
    simp only [Option.map_some, Option.getD_some, Nat.zero_add]
    exact own_getD n f i (by omega)
  · rw [List.getElem?_append_right (by simpa using r), List.getElem?_drop, List.length_map, List.length_range, show q + (i - q) = i by omega, List.getElem?_map, List.getElem?_range hi, if_neg r]
    rfl
end OwnCopy
end Jvm.RoadKit
namespace Jvm.Pilot.@@N@@
open Jvm Jvm.ClassFile Sem Op Lib Jvm.Free Jvm.Stand Jvm.LawKit Jvm.RoadKit Bundle Jvm.Pilot.@@N@@.Jvm.D
theorem own_0123 (x : Int32) : x &&& (3 : Int32) = 0 ∨ x &&& (3 : Int32) = 1 ∨ x &&& (3 : Int32) = 2 ∨ x &&& (3 : Int32) = 3 := by
  have q := c_and x (3 : Int32) (by decide)
  have e : (3 : Int32).toInt = 3 := by decide
  simp only [← Int32.toInt_inj, Int32.reduceToInt]
  omega
theorem own_le5 (x : Int32) : ((x &&& (7 : Int32)) - (2 : Int32)).toInt ≤ 5 := by
  have q := c_and x (7 : Int32) (by decide)
  have e : (7 : Int32).toInt = 7 := by decide
  have e2 : (2 : Int32).toInt = 2 := by decide
  have c1 := c_isub (x &&& (7 : Int32)) (2 : Int32)
  have r := rng32 ((x &&& (7 : Int32)) - (2 : Int32))
  omega
theorem own_gap (d x : Int32) (h : d.toInt ≤ 2147483380) : d.toInt < (d + (x &&& (255 : Int32)) + (1 : Int32)).toInt ∧ (d + (x &&& (255 : Int32)) + (1 : Int32)).toInt ≤ d.toInt + 256 := by
  have q := c_and x (255 : Int32) (by decide)
  have e : (255 : Int32).toInt = 255 := by decide
  have e1 : (1 : Int32).toInt = 1 := by decide
  have c1 := c_iadd d (x &&& (255 : Int32))
  have c2 := c_iadd (d + (x &&& (255 : Int32))) (1 : Int32)
  have r1 := rng32 (d + (x &&& (255 : Int32)))
  have r2 := rng32 (d + (x &&& (255 : Int32)) + (1 : Int32))
  have r3 := rng32 d
  omega
/-- own: what a search in the first n places answers -/
def own_bs (n : Nat) (f : Nat → Int32) (x z : Int32) : Prop := (∃ i, i < n ∧ z.toInt = (i : Int) ∧ (f i).toInt = x.toInt) ∨ (z.toInt < 0 ∧ ∀ i, i < n → ¬ (f i).toInt = x.toInt)
def own_fi (n : Nat) (f g : Nat → Int32) (x r : Int32) : Prop := (∃ i, i < n ∧ (f i).toInt = x.toInt ∧ r = g i) ∨ ((∀ i, i < n → ¬ (f i).toInt = x.toInt) ∧ r = 0)
/-- own: a Postings with its two int arrays -/
def own_P (Z : State) (h : Heap) (n0 : Nat) (a da fa : Addr) (n : Nat) (t : Int64) (cp : Nat) (f g : Nat → Int32) : Prop :=
  Exa Z h a "com/example/inverse_frequency/inversefrequency/Postings" ∧ Fld Z h a "com/example/inverse_frequency/inversefrequency/Postings" "documents" "[I" (.ref da) ∧ Fld Z h a "com/example/inverse_frequency/inversefrequency/Postings" "frequencies" "[I" (.ref fa) ∧ Fld Z h a "com/example/inverse_frequency/inversefrequency/Postings" "size" "I" (.int (Int32.ofNat n)) ∧ Fld Z h a "com/example/inverse_frequency/inversefrequency/Postings" "totalFrequency" "J" (.long t) ∧ OwnIA Z h da cp f ∧ OwnIA Z h fa cp g ∧ a ≠ da ∧ a ≠ fa ∧ da ≠ fa ∧ n0 ≤ a ∧ n0 ≤ da ∧ n0 ≤ fa
def own_max (x y : Int32) : Int32 := if x.toInt < y.toInt then y else x
def own_min (x y : Int32) : Int32 := if y.toInt < x.toInt then y else x
theorem own_dbl {n : Nat} (h : n < 1000) : (2 * Int32.ofNat n : Int32).toInt = ((2 * n : Nat) : Int) := by
  have q := c_imul 2 (Int32.ofNat n)
  have e : (2 : Int32).toInt = 2 := by decide
  have r := rng32 (2 * Int32.ofNat n)
  rw [e, own_ofNat (show n < 2147483648 by omega)] at q
  omega
theorem pd_0 : parseMethodDescriptor "(I)V" = some ⟨[.int], none⟩ := by decide +kernel
theorem pd_1 : parseMethodDescriptor "()V" = some ⟨[], none⟩ := by decide +kernel
theorem pd_2 : parseMethodDescriptor "(II)I" = some ⟨[.int, .int], some .int⟩ := by decide +kernel
theorem pd_3 : parseMethodDescriptor "(I)I" = some ⟨[.int], some .int⟩ := by decide +kernel
theorem pd_4 : parseMethodDescriptor "([IIII)I" = some ⟨[(.array .int), .int, .int, .int], some .int⟩ := by decide +kernel
theorem pd_5 : parseMethodDescriptor "(III)V" = some ⟨[.int, .int, .int], none⟩ := by decide +kernel
theorem pd_6 : parseMethodDescriptor "(II)V" = some ⟨[.int, .int], none⟩ := by decide +kernel
theorem pd_7 : parseMethodDescriptor "([II)[I" = some ⟨[(.array .int), .int], some (.array .int)⟩ := by decide +kernel
theorem d3_0 : decode jdk_29_method_65_code 0 = .ok (.iload_n 0, 1) := by decide +kernel
theorem d3_1 : decode jdk_29_method_65_code 1 = .ok (.iload_n 1, 1) := by decide +kernel
theorem d3_2 : decode jdk_29_method_65_code 2 = .ok (.if_icmp .lt 7, 3) := by decide +kernel
theorem d3_5 : decode jdk_29_method_65_code 5 = .ok (.iload_n 0, 1) := by decide +kernel
theorem d3_6 : decode jdk_29_method_65_code 6 = .ok (.goto 4, 3) := by decide +kernel
theorem d3_9 : decode jdk_29_method_65_code 9 = .ok (.iload_n 1, 1) := by decide +kernel
theorem d3_10 : decode jdk_29_method_65_code 10 = .ok (.ireturn, 1) := by decide +kernel
theorem pn_3 : plainFor (⟨"java/lang/Math", "max", "(II)I"⟩ : MethodName) = true := by decide +kernel
theorem ef_3 (m : MethodId) (x0 : Int32) (x1 : Int32) : entryFrame m #[(.int x0), (.int x1)] 2 = mkF m 0 #[.val (.int x0), .val (.int x1)] [] := by first | (simp [entryFrame, mkF, argsToLocals, Value.category, maxLocals]; done) | rfl
def Q3 (Z : State) (x : Int32) (y : Int32) (h0 : Heap) (n0 : Nat) (v : Option Value) (h : Heap) (L : List Loc) : Prop := v = some (.int (own_max x y)) ∧ Fr n0 L ∧ h = h0
set_option maxRecDepth 65536 in
set_option maxHeartbeats 40000000 in
theorem rm3 (l : Launch) (Z : State) (a0 : Array Value) (hw : ∀ d ∈ tables_1, d.before a0 Z = true) (ws : List Jvm.Cond) (x : Int32) (y : Int32) (h0 : Heap) (n0 : Nat) (Z0 : n0 ≤ h0.size) :
    MetFree l (⟨"java/lang/Math", "max", "(II)I"⟩ : MethodName) (head1 (Jvm.Cond.code (⟨"java/lang/Math", "max", "(II)I"⟩ : MethodName) jdk_29_method_65_code 2 (some .int) :: ws) ({ frames := 0, cells := 0, slots := 0, locals := 0 } : Room)) (fun arr' U => arr' = #[(.int x), (.int y)] ∧ Z.Warmed39 U.vm ∧ U.heap = h0) (fun _ _ _ _ _ => True) (fun _ U o U' => ∃ v L, o = .returned v ∧ (Q3 Z x y h0 n0) v U'.heap L ∧ FrameEnd U o U' L ({ frames := 0, cells := 0, slots := 0, locals := 0 } : Room).cells ({ frames := 0, cells := 0, slots := 0, locals := 0 } : Room).slots) := by
  refine MetFree.of_bodySF pn_3 hisR ?_
  intro p e s m args below meth c s₁ Bd hml0 hP hK
  obtain ⟨rfl, hZ, hh⟩ := hP
  have hx := Bd.exec
  have hby := Bd.bytes
  have hlk : meth.locks = false := BodyLoose.notSynchronized Bd
  have hml : c.maxLocals = 2 := hml0
  have hown : s.vm.findClass "java/lang/Math" = some m.cls := findClass_of_methodNamed Bd.named
  have hnm := (name_of_methodNamed Bd.named Bd.method).1
  have X0 : Stand p l e ({ frames := 0, cells := 0, slots := 0, locals := 0 } : Room) s m #[(.int x), (.int y)] below meth c s₁ [] 0 0 := Stand.of_body Bd
  have e0 : s₁.heap = h0 := by rw [← hh, Bd.state]; rfl
  have N := Fr.nil n0
  have Zs := Z0
  change OwnGo p.tables e below (OwnEnd s (Q3 Z x y h0 n0) ({ frames := 0, cells := 0, slots := 0, locals := 0 } : Room).cells ({ frames := 0, cells := 0, slots := 0, locals := 0 } : Room).slots) _
  refine OwnGo.fwd (fun tq' kq' => castTop (ef_3 m x y) kq') ?_
  show OwnGo _ _ _ _ (s₁.setTop (mkF m 0 #[.val (.int x), .val (.int y)] []))
  refine OwnGo.fwd (fun tq' kq' => XS.iloadN X0.here hx rfl (hb hby d3_0) rfl kq') ?_
  show OwnGo _ _ _ _ (s₁.setTop (mkF m 1 #[.val (.int x), .val (.int y)] [(.int x)]))
  refine OwnGo.fwd (fun tq' kq' => XS.iloadN X0.here hx rfl (hb hby d3_1) rfl kq') ?_
  show OwnGo _ _ _ _ (s₁.setTop (mkF m 2 #[.val (.int x), .val (.int y)] [(.int y), (.int x)]))
  by_cases hc2_1 : x.toInt < y.toInt
  · refine OwnGo.fwd (fun tq' kq' => XS.icmpYes X0.here hx rfl (pc0 := 2) (pc' := 9) rfl (hb hby d3_2) rfl (own_blt rfl rfl hc2_1).1 (by decide) (by decide) kq') ?_
    show OwnGo _ _ _ _ (s₁.setTop (mkF m 9 #[.val (.int x), .val (.int y)] []))
    refine OwnGo.fwd (fun tq' kq' => XS.iloadN X0.here hx rfl (hb hby d3_9) rfl kq') ?_
    show OwnGo _ _ _ _ (s₁.setTop (mkF m 10 #[.val (.int x), .val (.int y)] [(.int y)]))
    exact own_retI X0 hlk hx Bd.returns (hb hby d3_10) (by decide) (by decide) e0 ⟨by simp only [own_max, hc2_1, if_true, if_false], N, rfl⟩
  · refine OwnGo.fwd (fun tq' kq' => XS.icmpNo X0.here hx rfl (hb hby d3_2) rfl (own_bnlt rfl rfl hc2_1).1 kq') ?_
    show OwnGo _ _ _ _ (s₁.setTop (mkF m 5 #[.val (.int x), .val (.int y)] []))
    refine OwnGo.fwd (fun tq' kq' => XS.iloadN X0.here hx rfl (hb hby d3_5) rfl kq') ?_
    show OwnGo _ _ _ _ (s₁.setTop (mkF m 6 #[.val (.int x), .val (.int y)] [(.int x)]))
    refine OwnGo.fwd (fun tq' kq' => XS.goto X0.here hx rfl (pc0 := 6) (pc' := 10) rfl (hb hby d3_6) (by decide) (by decide) kq') ?_
    show OwnGo _ _ _ _ (s₁.setTop (mkF m 10 #[.val (.int x), .val (.int y)] [(.int x)]))
    exact own_retI X0 hlk hx Bd.returns (hb hby d3_10) (by decide) (by decide) e0 ⟨by simp only [own_max, hc2_1, if_true, if_false], N, rfl⟩
theorem d10_0 : decode jdk_29_method_69_code 0 = .ok (.iload_n 0, 1) := by decide +kernel
theorem d10_1 : decode jdk_29_method_69_code 1 = .ok (.iload_n 1, 1) := by decide +kernel
theorem d10_2 : decode jdk_29_method_69_code 2 = .ok (.if_icmp .gt 7, 3) := by decide +kernel
theorem d10_5 : decode jdk_29_method_69_code 5 = .ok (.iload_n 0, 1) := by decide +kernel
theorem d10_6 : decode jdk_29_method_69_code 6 = .ok (.goto 4, 3) := by decide +kernel
theorem d10_9 : decode jdk_29_method_69_code 9 = .ok (.iload_n 1, 1) := by decide +kernel
theorem d10_10 : decode jdk_29_method_69_code 10 = .ok (.ireturn, 1) := by decide +kernel
theorem pn_10 : plainFor (⟨"java/lang/Math", "min", "(II)I"⟩ : MethodName) = true := by decide +kernel
theorem ef_10 (m : MethodId) (x0 : Int32) (x1 : Int32) : entryFrame m #[(.int x0), (.int x1)] 2 = mkF m 0 #[.val (.int x0), .val (.int x1)] [] := by first | (simp [entryFrame, mkF, argsToLocals, Value.category, maxLocals]; done) | rfl
def Q10 (Z : State) (x : Int32) (y : Int32) (h0 : Heap) (n0 : Nat) (v : Option Value) (h : Heap) (L : List Loc) : Prop := v = some (.int (own_min x y)) ∧ Fr n0 L ∧ h = h0
set_option maxRecDepth 65536 in
set_option maxHeartbeats 40000000 in
theorem rm10 (l : Launch) (Z : State) (a0 : Array Value) (hw : ∀ d ∈ tables_1, d.before a0 Z = true) (ws : List Jvm.Cond) (x : Int32) (y : Int32) (h0 : Heap) (n0 : Nat) (Z0 : n0 ≤ h0.size) :
    MetFree l (⟨"java/lang/Math", "min", "(II)I"⟩ : MethodName) (head1 (Jvm.Cond.code (⟨"java/lang/Math", "min", "(II)I"⟩ : MethodName) jdk_29_method_69_code 2 (some .int) :: ws) ({ frames := 0, cells := 0, slots := 0, locals := 0 } : Room)) (fun arr' U => arr' = #[(.int x), (.int y)] ∧ Z.Warmed39 U.vm ∧ U.heap = h0) (fun _ _ _ _ _ => True) (fun _ U o U' => ∃ v L, o = .returned v ∧ (Q10 Z x y h0 n0) v U'.heap L ∧ FrameEnd U o U' L ({ frames := 0, cells := 0, slots := 0, locals := 0 } : Room).cells ({ frames := 0, cells := 0, slots := 0, locals := 0 } : Room).slots) := by
  refine MetFree.of_bodySF pn_10 hisR ?_
  intro p e s m args below meth c s₁ Bd hml0 hP hK
  obtain ⟨rfl, hZ, hh⟩ := hP
  have hx := Bd.exec
  have hby := Bd.bytes
  have hlk : meth.locks = false := BodyLoose.notSynchronized Bd
  have hml : c.maxLocals = 2 := hml0
  have hown : s.vm.findClass "java/lang/Math" = some m.cls := findClass_of_methodNamed Bd.named
  have hnm := (name_of_methodNamed Bd.named Bd.method).1
  have X0 : Stand p l e ({ frames := 0, cells := 0, slots := 0, locals := 0 } : Room) s m #[(.int x), (.int y)] below meth c s₁ [] 0 0 := Stand.of_body Bd
  have e0 : s₁.heap = h0 := by rw [← hh, Bd.state]; rfl
  have N := Fr.nil n0
  have Zs := Z0
  change OwnGo p.tables e below (OwnEnd s (Q10 Z x y h0 n0) ({ frames := 0, cells := 0, slots := 0, locals := 0 } : Room).cells ({ frames := 0, cells := 0, slots := 0, locals := 0 } : Room).slots) _
  refine OwnGo.fwd (fun tq' kq' => castTop (ef_10 m x y) kq') ?_
  show OwnGo _ _ _ _ (s₁.setTop (mkF m 0 #[.val (.int x), .val (.int y)] []))
  refine OwnGo.fwd (fun tq' kq' => XS.iloadN X0.here hx rfl (hb hby d10_0) rfl kq') ?_
  show OwnGo _ _ _ _ (s₁.setTop (mkF m 1 #[.val (.int x), .val (.int y)] [(.int x)]))
  refine OwnGo.fwd (fun tq' kq' => XS.iloadN X0.here hx rfl (hb hby d10_1) rfl kq') ?_
  show OwnGo _ _ _ _ (s₁.setTop (mkF m 2 #[.val (.int x), .val (.int y)] [(.int y), (.int x)]))
  by_cases hc2_1 : y.toInt < x.toInt
  · refine OwnGo.fwd (fun tq' kq' => XS.icmpYes X0.here hx rfl (pc0 := 2) (pc' := 9) rfl (hb hby d10_2) rfl (own_blt rfl rfl hc2_1).2.2.1 (by decide) (by decide) kq') ?_
    show OwnGo _ _ _ _ (s₁.setTop (mkF m 9 #[.val (.int x), .val (.int y)] []))
    refine OwnGo.fwd (fun tq' kq' => XS.iloadN X0.here hx rfl (hb hby d10_9) rfl kq') ?_
    show OwnGo _ _ _ _ (s₁.setTop (mkF m 10 #[.val (.int x), .val (.int y)] [(.int y)]))
    exact own_retI X0 hlk hx Bd.returns (hb hby d10_10) (by decide) (by decide) e0 ⟨by simp only [own_min, hc2_1, if_true, if_false], N, rfl⟩
  · refine OwnGo.fwd (fun tq' kq' => XS.icmpNo X0.here hx rfl (hb hby d10_2) rfl (own_bnlt rfl rfl hc2_1).2.2.1 kq') ?_
    show OwnGo _ _ _ _ (s₁.setTop (mkF m 5 #[.val (.int x), .val (.int y)] []))
    refine OwnGo.fwd (fun tq' kq' => XS.iloadN X0.here hx rfl (hb hby d10_5) rfl kq') ?_
    show OwnGo _ _ _ _ (s₁.setTop (mkF m 6 #[.val (.int x), .val (.int y)] [(.int x)]))
    refine OwnGo.fwd (fun tq' kq' => XS.goto X0.here hx rfl (pc0 := 6) (pc' := 10) rfl (hb hby d10_6) (by decide) (by decide) kq') ?_
    show OwnGo _ _ _ _ (s₁.setTop (mkF m 10 #[.val (.int x), .val (.int y)] [(.int x)]))
    exact own_retI X0 hlk hx Bd.returns (hb hby d10_10) (by decide) (by decide) e0 ⟨by simp only [own_min, hc2_1, if_true, if_false], N, rfl⟩
theorem d9_0 : decode jdk_65_method_123_code 0 = .ok (.iload_n 1, 1) := by decide +kernel
theorem d9_1 : decode jdk_65_method_123_code 1 = .ok (.aload_n 0, 1) := by decide +kernel
theorem d9_2 : decode jdk_65_method_123_code 2 = .ok (.arraylength, 1) := by decide +kernel
theorem d9_3 : decode jdk_65_method_123_code 3 = .ok (.if_icmp .ne 11, 3) := by decide +kernel
theorem d9_6 : decode jdk_65_method_123_code 6 = .ok (.aload_n 0, 1) := by decide +kernel
theorem d9_7 : decode jdk_65_method_123_code 7 = .ok (.invokevirtual 316, 3) := by decide +kernel
theorem d9_10 : decode jdk_65_method_123_code 10 = .ok (.checkcast 317, 3) := by decide +kernel
theorem d9_13 : decode jdk_65_method_123_code 13 = .ok (.areturn, 1) := by decide +kernel
theorem d9_14 : decode jdk_65_method_123_code 14 = .ok (.iload_n 1, 1) := by decide +kernel
theorem d9_15 : decode jdk_65_method_123_code 15 = .ok (.newarray .int, 2) := by decide +kernel
theorem d9_17 : decode jdk_65_method_123_code 17 = .ok (.astore_n 2, 1) := by decide +kernel
theorem d9_18 : decode jdk_65_method_123_code 18 = .ok (.aload_n 0, 1) := by decide +kernel
theorem d9_19 : decode jdk_65_method_123_code 19 = .ok (.iconst 0, 1) := by decide +kernel
theorem d9_20 : decode jdk_65_method_123_code 20 = .ok (.aload_n 2, 1) := by decide +kernel
theorem d9_21 : decode jdk_65_method_123_code 21 = .ok (.iconst 0, 1) := by decide +kernel
theorem d9_22 : decode jdk_65_method_123_code 22 = .ok (.aload_n 0, 1) := by decide +kernel
theorem d9_23 : decode jdk_65_method_123_code 23 = .ok (.arraylength, 1) := by decide +kernel
theorem d9_24 : decode jdk_65_method_123_code 24 = .ok (.iload_n 1, 1) := by decide +kernel
theorem d9_25 : decode jdk_65_method_123_code 25 = .ok (.invokestatic 304, 3) := by decide +kernel
theorem d9_28 : decode jdk_65_method_123_code 28 = .ok (.invokestatic 150, 3) := by decide +kernel
theorem d9_31 : decode jdk_65_method_123_code 31 = .ok (.aload_n 2, 1) := by decide +kernel
theorem d9_32 : decode jdk_65_method_123_code 32 = .ok (.areturn, 1) := by decide +kernel
theorem pn_9 : plainFor (⟨"java/util/Arrays", "copyOf", "([II)[I"⟩ : MethodName) = true := plainFor_of_name (by first | (simp [plainName, overriddenIn]; done) | decide +kernel)
theorem ef_9 (m : MethodId) (x0 : Addr) (x1 : Int32) : entryFrame m #[(.ref x0), (.int x1)] 3 = mkF m 0 #[.val (.ref x0), .val (.int x1), .unset] [] := by first | (simp [entryFrame, mkF, argsToLocals, Value.category, maxLocals]; done) | rfl
def Q9 (Z : State) (d : Addr) (x : Int32) (cp : Nat) (m2 : Nat) (f : Nat → Int32) (h0 : Heap) (n0 : Nat) (v : Option Value) (h : Heap) (L : List Loc) : Prop := v = some (.ref h0.size) ∧ Fr n0 L ∧ Keep h0 h [] ∧ OwnIA Z h h0.size m2 (fun i => if i < cp then f i else 0)
set_option maxRecDepth 65536 in
set_option maxHeartbeats 40000000 in
theorem rm9 (l : Launch) (Z : State) (a0 : Array Value) (hw : ∀ d ∈ tables_1, d.before a0 Z = true) (ws : List Jvm.Cond) (d : Addr) (x : Int32) (cp : Nat) (m2 : Nat) (f : Nat → Int32) (h0 : Heap) (n0 : Nat) (Z0 : n0 ≤ h0.size) (V_d : OwnIA Z h0 d cp f) (hx2 : x.toInt = (m2 : Int)) (hl : cp < m2) (h4 : m2 ≤ 4) :
    MetFree l (⟨"java/util/Arrays", "copyOf", "([II)[I"⟩ : MethodName) (head1 (Jvm.Cond.code (⟨"java/util/Arrays", "copyOf", "([II)[I"⟩ : MethodName) jdk_65_method_123_code 3 (some (.array .int)) :: ws) ({ frames := 1, cells := 1, slots := 4, locals := 60 } : Room)) (fun arr' U => arr' = #[(.ref d), (.int x)] ∧ Z.Warmed39 U.vm ∧ U.heap = h0) (fun _ _ _ _ _ => True) (fun _ U o U' => ∃ v L, o = .returned v ∧ (Q9 Z d x cp m2 f h0 n0) v U'.heap L ∧ FrameEnd U o U' L ({ frames := 1, cells := 1, slots := 4, locals := 60 } : Room).cells ({ frames := 1, cells := 1, slots := 4, locals := 60 } : Room).slots) := by
  refine MetFree.of_bodySF pn_9 hisR ?_
  intro p e s m args below meth c s₁ Bd hml0 hP hK
  obtain ⟨rfl, hZ, hh⟩ := hP
  have hx := Bd.exec
  have hby := Bd.bytes
  have hlk : meth.locks = false := BodyLoose.notSynchronized Bd
  have hml : c.maxLocals = 3 := hml0
  have hown : s.vm.findClass "java/util/Arrays" = some m.cls := findClass_of_methodNamed Bd.named
  have hnm := (name_of_methodNamed Bd.named Bd.method).1
  have X0 : Stand p l e ({ frames := 1, cells := 1, slots := 4, locals := 60 } : Room) s m #[(.ref d), (.int x)] below meth c s₁ [] 0 0 := Stand.of_body Bd
  have e0 : s₁.heap = h0 := by rw [← hh, Bd.state]; rfl
  have N := Fr.nil n0
  have Zs := Z0
  change OwnGo p.tables e below (OwnEnd s (Q9 Z d x cp m2 f h0 n0) ({ frames := 1, cells := 1, slots := 4, locals := 60 } : Room).cells ({ frames := 1, cells := 1, slots := 4, locals := 60 } : Room).slots) _
  refine OwnGo.fwd (fun tq' kq' => castTop (ef_9 m d x) kq') ?_
  show OwnGo _ _ _ _ (s₁.setTop (mkF m 0 #[.val (.ref d), .val (.int x), .unset] []))
  have hc_cp : (Int32.ofNat cp).toInt = (cp : Int) := own_ofNat (by omega)
  have K : Keep h0 h0 [] := Keep.refl _ _
  refine OwnGo.fwd (fun tq' kq' => XS.iloadN X0.here hx rfl (hb hby d9_0) rfl kq') ?_
  show OwnGo _ _ _ _ (s₁.setTop (mkF m 1 #[.val (.ref d), .val (.int x), .unset] [(.int x)]))
  refine OwnGo.fwd (fun tq' kq' => XS.aloadN X0.here hx rfl (hb hby d9_1) rfl rfl kq') ?_
  show OwnGo _ _ _ _ (s₁.setTop (mkF m 2 #[.val (.ref d), .val (.int x), .unset] [(.ref d), (.int x)]))
  refine OwnGo.fwd (fun tq' kq' => own_len X0 hx hZ e0 V_d (g := (mkF m 2 #[.val (.ref d), .val (.int x), .unset] [(.ref d), (.int x)])) rfl rfl (hb hby d9_2) tq' kq') ?_
  show OwnGo _ _ _ _ (s₁.setTop (mkF m 3 #[.val (.ref d), .val (.int x), .unset] [(.int (Int32.ofNat cp)), (.int x)]))
  have hc3_1 : ¬ ((m2 : Int) = (cp : Int)) := by omega
  refine OwnGo.fwd (fun tq' kq' => XS.icmpYes X0.here hx rfl (pc0 := 3) (pc' := 14) rfl (hb hby d9_3) rfl (own_bneq hx2 hc_cp hc3_1).2 (by decide) (by decide) kq') ?_
  show OwnGo _ _ _ _ (s₁.setTop (mkF m 14 #[.val (.ref d), .val (.int x), .unset] []))
  refine OwnGo.fwd (fun tq' kq' => XS.iloadN X0.here hx rfl (hb hby d9_14) rfl kq') ?_
  show OwnGo _ _ _ _ (s₁.setTop (mkF m 15 #[.val (.ref d), .val (.int x), .unset] [(.int x)]))
  obtain ⟨T2, h2, b2, X2, e2, E2, g2, V2, st2⟩ := own_newI X0 hx hZ (hw _ (List.mem_of_getElem? (i := 14) rfl)) e0 (g := (mkF m 15 #[.val (.ref d), .val (.int x), .unset] [(.int x)])) rfl (hb hby d9_15) rfl (i := m2) hx2 (cap := 4) h4 (by decide) (by decide) (by decide)
  have ne_d_b2 : d ≠ b2 := Nat.ne_of_lt (Nat.lt_of_lt_of_le V_d.lt (Nat.le_of_eq g2.symm))
  have g_b2 : n0 ≤ b2 := Nat.le_trans Zs (Nat.le_of_eq g2.symm)
  have sz_b2 : h0.size ≤ b2 := Nat.le_trans K.1 (Nat.le_of_eq g2.symm)
  have K := K.ext E2
  have Zs := Nat.le_trans Zs E2.1
  have V_d := V_d.ext E2
  have V_b2 := V2
  refine OwnGo.fwd st2 ?_
  show OwnGo _ _ _ _ (T2.setTop (mkF m 17 #[.val (.ref d), .val (.int x), .unset] [(.ref b2)]))
  refine OwnGo.fwd (fun tq' kq' => XS.astoreN X2.here hx rfl (hb hby d9_17) rfl rfl (l' := #[.val (.ref d), .val (.int x), .val (.ref b2)]) rfl kq') ?_
  show OwnGo _ _ _ _ (T2.setTop (mkF m 18 #[.val (.ref d), .val (.int x), .val (.ref b2)] []))
  refine OwnGo.fwd (fun tq' kq' => XS.aloadN X2.here hx rfl (hb hby d9_18) rfl rfl kq') ?_
  show OwnGo _ _ _ _ (T2.setTop (mkF m 19 #[.val (.ref d), .val (.int x), .val (.ref b2)] [(.ref d)]))
  refine OwnGo.fwd (fun tq' kq' => XS.iconst X2.here hx rfl (hb hby d9_19) kq') ?_
  show OwnGo _ _ _ _ (T2.setTop (mkF m 20 #[.val (.ref d), .val (.int x), .val (.ref b2)] [(.int (0 : Int32)), (.ref d)]))
  refine OwnGo.fwd (fun tq' kq' => XS.aloadN X2.here hx rfl (hb hby d9_20) rfl rfl kq') ?_
  show OwnGo _ _ _ _ (T2.setTop (mkF m 21 #[.val (.ref d), .val (.int x), .val (.ref b2)] [(.ref b2), (.int (0 : Int32)), (.ref d)]))
  refine OwnGo.fwd (fun tq' kq' => XS.iconst X2.here hx rfl (hb hby d9_21) kq') ?_
  show OwnGo _ _ _ _ (T2.setTop (mkF m 22 #[.val (.ref d), .val (.int x), .val (.ref b2)] [(.int (0 : Int32)), (.ref b2), (.int (0 : Int32)), (.ref d)]))
  refine OwnGo.fwd (fun tq' kq' => XS.aloadN X2.here hx rfl (hb hby d9_22) rfl rfl kq') ?_
  show OwnGo _ _ _ _ (T2.setTop (mkF m 23 #[.val (.ref d), .val (.int x), .val (.ref b2)] [(.ref d), (.int (0 : Int32)), (.ref b2), (.int (0 : Int32)), (.ref d)]))
  refine OwnGo.fwd (fun tq' kq' => own_len X2 hx hZ e2 V_d (g := (mkF m 23 #[.val (.ref d), .val (.int x), .val (.ref b2)] [(.ref d), (.int (0 : Int32)), (.ref b2), (.int (0 : Int32)), (.ref d)])) rfl rfl (hb hby d9_23) tq' kq') ?_
  show OwnGo _ _ _ _ (T2.setTop (mkF m 24 #[.val (.ref d), .val (.int x), .val (.ref b2)] [(.int (Int32.ofNat cp)), (.int (0 : Int32)), (.ref b2), (.int (0 : Int32)), (.ref d)]))
  refine OwnGo.fwd (fun tq' kq' => XS.iloadN X2.here hx rfl (hb hby d9_24) rfl kq') ?_
  show OwnGo _ _ _ _ (T2.setTop (mkF m 25 #[.val (.ref d), .val (.int x), .val (.ref b2)] [(.int x), (.int (Int32.ofNat cp)), (.int (0 : Int32)), (.ref b2), (.int (0 : Int32)), (.ref d)]))
  obtain ⟨_, _, ⟨T3, L3, k3, n3⟩, -, X3, ⟨Lc3, hQ3, l3, y3, z3⟩, st3⟩ := Jvm.LawKit.callS X2 hx (y := (⟨"java/lang/Math", "min", "(II)I"⟩ : MethodName)) hown (mvT hZ (hw _ (List.mem_of_getElem? (i := 46) rfl))) (mvT hZ (hw _ (List.mem_of_getElem? (i := 47) rfl))) (mvT hZ (hw _ (List.mem_of_getElem? (i := 12) rfl))) (mvT hZ (hw _ (List.mem_of_getElem? (i := 48) rfl))) (by decide) (backOf (W := 4) (rm10 l Z a0 hw [] (Int32.ofNat cp) x h2 n0 Zs) hZ (hw _ (List.mem_of_getElem? (i := 48) rfl)) (hw _ (List.mem_of_getElem? (i := 12) rfl)) (by decide) (by decide)) (g := (mkF m 25 #[.val (.ref d), .val (.int x), .val (.ref b2)] [(.int x), (.int (Int32.ofNat cp)), (.int (0 : Int32)), (.ref b2), (.int (0 : Int32)), (.ref d)])) rfl (by rw [hml]; rfl) (argsL := [(.int (Int32.ofNat cp)), (.int x)]) (rest := [(.int (0 : Int32)), (.ref b2), (.int (0 : Int32)), (.ref d)]) (lenOf pd_2 rfl) rfl (by show 2 * 0 + _ ≤ _; exact Nat.le_of_eq rfl) (hb hby d9_25) (fun _ _ => ⟨rfl, e2, (by decide : 1 + 0 ≤ _), (by decide : 4 + 0 ≤ _)⟩)
  dsimp only [Pt.U, Pt.locs, Pt.cells, Pt.slots] at X3 l3 y3 z3 st3 hQ3
  subst l3 y3 z3
  obtain ⟨rfl, N3q, e3⟩ := hQ3
  have N := Fr.app N N3q
  refine OwnGo.fwd st3 ?_
  show OwnGo _ _ _ _ (T3.setTop (mkF m 28 #[.val (.ref d), .val (.int x), .val (.ref b2)] [(.int (own_min (Int32.ofNat cp) x)), (.int (0 : Int32)), (.ref b2), (.int (0 : Int32)), (.ref d)]))
  obtain ⟨mi, hv_mi⟩ : ∃ q : Int32, q = (own_min (Int32.ofNat cp) x) := ⟨_, rfl⟩
  rw [← hv_mi]
  show OwnGo _ _ _ _ (T3.setTop (mkF m 28 #[.val (.ref d), .val (.int x), .val (.ref b2)] [(.int mi), (.int (0 : Int32)), (.ref b2), (.int (0 : Int32)), (.ref d)]))
  have hmin : mi.toInt = (cp : Int) := by rw [hv_mi]; unfold own_min; rw [if_neg (by rw [hx2, hc_cp]; omega)]; exact hc_cp
  obtain ⟨T4, h4, L4, X4, e4, N4, K4, V4, st4⟩ := own_cpI X3 hx hZ hown (hw _ (List.mem_of_getElem? (i := 49) rfl)) (hw _ (List.mem_of_getElem? (i := 52) rfl)) (hw _ (List.mem_of_getElem? (i := 50) rfl)) (hw _ (List.mem_of_getElem? (i := 51) rfl)) e3 V_d V_b2 (q := cp) hmin (Nat.le_refl _) (by omega) N g_b2 (g := (mkF m 28 #[.val (.ref d), .val (.int x), .val (.ref b2)] [(.int mi), (.int (0 : Int32)), (.ref b2), (.int (0 : Int32)), (.ref d)])) rfl (by rw [hml]; rfl) rfl (hb hby d9_28) (by decide) (W := 0) (by show 2 * 0 + _ ≤ _; exact Nat.le_of_eq rfl) (by decide)
  have N := N4
  have Zs := Nat.le_trans Zs K4.1
  have V_d := V_d.keep K4 (ninS ne_d_b2 nin0)
  have K := K.trans K4 (allS (Or.inr sz_b2) all0)
  have V_b2 := V4
  refine OwnGo.fwd st4 ?_
  show OwnGo _ _ _ _ (T4.setTop (mkF m 31 #[.val (.ref d), .val (.int x), .val (.ref b2)] []))
  refine OwnGo.fwd (fun tq' kq' => XS.aloadN X4.here hx rfl (hb hby d9_31) rfl rfl kq') ?_
  show OwnGo _ _ _ _ (T4.setTop (mkF m 32 #[.val (.ref d), .val (.int x), .val (.ref b2)] [(.ref b2)]))
  exact own_retA X4 hlk hx Bd.returns rfl rfl (hb hby d9_32) (by decide) (by decide) e4 ⟨by rw [g2], N, K, g2 ▸ V_b2⟩
theorem d1_0 : decode prog_33_method_2_code 0 = .ok (.aload_n 0, 1) := by decide +kernel
theorem d1_1 : decode prog_33_method_2_code 1 = .ok (.invokespecial 7, 3) := by decide +kernel
theorem d1_4 : decode prog_33_method_2_code 4 = .ok (.aload_n 0, 1) := by decide +kernel
theorem d1_5 : decode prog_33_method_2_code 5 = .ok (.iload_n 1, 1) := by decide +kernel
theorem d1_6 : decode prog_33_method_2_code 6 = .ok (.iconst 1, 1) := by decide +kernel
theorem d1_7 : decode prog_33_method_2_code 7 = .ok (.invokestatic 12, 3) := by decide +kernel
theorem d1_10 : decode prog_33_method_2_code 10 = .ok (.newarray .int, 2) := by decide +kernel
theorem d1_12 : decode prog_33_method_2_code 12 = .ok (.putfield 18, 3) := by decide +kernel
theorem d1_15 : decode prog_33_method_2_code 15 = .ok (.aload_n 0, 1) := by decide +kernel
theorem d1_16 : decode prog_33_method_2_code 16 = .ok (.aload_n 0, 1) := by decide +kernel
theorem d1_17 : decode prog_33_method_2_code 17 = .ok (.getfield 18, 3) := by decide +kernel
theorem d1_20 : decode prog_33_method_2_code 20 = .ok (.arraylength, 1) := by decide +kernel
theorem d1_21 : decode prog_33_method_2_code 21 = .ok (.newarray .int, 2) := by decide +kernel
theorem d1_23 : decode prog_33_method_2_code 23 = .ok (.putfield 22, 3) := by decide +kernel
theorem d1_26 : decode prog_33_method_2_code 26 = .ok (.return_, 1) := by decide +kernel
theorem pn_1 : plainFor (⟨"com/example/inverse_frequency/inversefrequency/Postings", "<init>", "(I)V"⟩ : MethodName) = true := plainFor_of_name (by first | (simp [plainName, overriddenIn]; done) | decide +kernel)
theorem ef_1 (m : MethodId) (x0 : Addr) (x1 : Int32) : entryFrame m #[(.ref x0), (.int x1)] 2 = mkF m 0 #[.val (.ref x0), .val (.int x1)] [] := by first | (simp [entryFrame, mkF, argsToLocals, Value.category, maxLocals]; done) | rfl
def Q1 (Z : State) (a : Addr) (x : Int32) (h0 : Heap) (n0 : Nat) (v : Option Value) (h : Heap) (L : List Loc) : Prop := v = none ∧ Fr n0 L ∧ Keep h0 h [a] ∧ ∃ da fa cp, 1 ≤ cp ∧ cp ≤ 5 ∧ h0.size ≤ da ∧ h0.size ≤ fa ∧ own_P Z h n0 a da fa 0 0 cp (fun _ => 0) (fun _ => 0)
set_option maxRecDepth 65536 in
set_option maxHeartbeats 40000000 in
theorem rm1 (l : Launch) (Z : State) (a0 : Array Value) (hw : ∀ d ∈ tables_1, d.before a0 Z = true) (ws : List Jvm.Cond) (a : Addr) (x : Int32) (h0 : Heap) (n0 : Nat) (Z0 : n0 ≤ h0.size) (E_a : Exa Z h0 a "com/example/inverse_frequency/inversefrequency/Postings") (F_documents_a : Fld Z h0 a "com/example/inverse_frequency/inversefrequency/Postings" "documents" "[I" .null) (F_frequencies_a : Fld Z h0 a "com/example/inverse_frequency/inversefrequency/Postings" "frequencies" "[I" .null) (F_size_a : Fld Z h0 a "com/example/inverse_frequency/inversefrequency/Postings" "size" "I" (.int 0)) (F_totalFrequency_a : Fld Z h0 a "com/example/inverse_frequency/inversefrequency/Postings" "totalFrequency" "J" (.long 0)) (g_a : n0 ≤ a) (hx4 : x.toInt ≤ 5) :
    MetFree l (⟨"com/example/inverse_frequency/inversefrequency/Postings", "<init>", "(I)V"⟩ : MethodName) (head1 (Jvm.Cond.code (⟨"com/example/inverse_frequency/inversefrequency/Postings", "<init>", "(I)V"⟩ : MethodName) prog_33_method_2_code 2 none :: ws) ({ frames := 1, cells := 2, slots := 10, locals := 20 } : Room)) (fun arr' U => arr' = #[(.ref a), (.int x)] ∧ Z.Warmed39 U.vm ∧ U.heap = h0) (fun _ _ _ _ _ => True) (fun _ U o U' => ∃ v L, o = .returned v ∧ (Q1 Z a x h0 n0) v U'.heap L ∧ FrameEnd U o U' L ({ frames := 1, cells := 2, slots := 10, locals := 20 } : Room).cells ({ frames := 1, cells := 2, slots := 10, locals := 20 } : Room).slots) := by
  refine MetFree.of_bodySF pn_1 hisR ?_
  intro p e s m args below meth c s₁ Bd hml0 hP hK
  obtain ⟨rfl, hZ, hh⟩ := hP
  have hx := Bd.exec
  have hby := Bd.bytes
  have hlk : meth.locks = false := BodyLoose.notSynchronized Bd
  have hml : c.maxLocals = 2 := hml0
  have hown : s.vm.findClass "com/example/inverse_frequency/inversefrequency/Postings" = some m.cls := findClass_of_methodNamed Bd.named
  have hnm := (name_of_methodNamed Bd.named Bd.method).1
  have X0 : Stand p l e ({ frames := 1, cells := 2, slots := 10, locals := 20 } : Room) s m #[(.ref a), (.int x)] below meth c s₁ [] 0 0 := Stand.of_body Bd
  have e0 : s₁.heap = h0 := by rw [← hh, Bd.state]; rfl
  have N := Fr.nil n0
  have Zs := Z0
  change OwnGo p.tables e below (OwnEnd s (Q1 Z a x h0 n0) ({ frames := 1, cells := 2, slots := 10, locals := 20 } : Room).cells ({ frames := 1, cells := 2, slots := 10, locals := 20 } : Room).slots) _
  refine OwnGo.fwd (fun tq' kq' => castTop (ef_1 m a x) kq') ?_
  show OwnGo _ _ _ _ (s₁.setTop (mkF m 0 #[.val (.ref a), .val (.int x)] []))
  have K : Keep h0 h0 [a] := Keep.refl _ _
  refine OwnGo.fwd (fun tq' kq' => XS.aloadN X0.here hx rfl (hb hby d1_0) rfl rfl kq') ?_
  show OwnGo _ _ _ _ (s₁.setTop (mkF m 1 #[.val (.ref a), .val (.int x)] [(.ref a)]))
  obtain ⟨T1, X1, e1, st1⟩ := initO X0 hx hZ hown (hw _ (List.mem_of_getElem? (i := 7) rfl)) (hw _ (List.mem_of_getElem? (i := 8) rfl)) (hw _ (List.mem_of_getElem? (i := 9) rfl)) e0 (g := (mkF m 1 #[.val (.ref a), .val (.int x)] [(.ref a)])) rfl (by rw [hml]; rfl) rfl (hb hby d1_1) (by decide) (W := 0) (by show 2 * 0 + _ ≤ _; exact Nat.le_of_eq rfl) (by decide)
  refine OwnGo.fwd st1 ?_
  show OwnGo _ _ _ _ (T1.setTop (mkF m 4 #[.val (.ref a), .val (.int x)] []))
  refine OwnGo.fwd (fun tq' kq' => XS.aloadN X1.here hx rfl (hb hby d1_4) rfl rfl kq') ?_
  show OwnGo _ _ _ _ (T1.setTop (mkF m 5 #[.val (.ref a), .val (.int x)] [(.ref a)]))
  refine OwnGo.fwd (fun tq' kq' => XS.iloadN X1.here hx rfl (hb hby d1_5) rfl kq') ?_
  show OwnGo _ _ _ _ (T1.setTop (mkF m 6 #[.val (.ref a), .val (.int x)] [(.int x), (.ref a)]))
  refine OwnGo.fwd (fun tq' kq' => XS.iconst X1.here hx rfl (hb hby d1_6) kq') ?_
  show OwnGo _ _ _ _ (T1.setTop (mkF m 7 #[.val (.ref a), .val (.int x)] [(.int (1 : Int32)), (.int x), (.ref a)]))
  obtain ⟨_, _, ⟨T2, L2, k2, n2⟩, -, X2, ⟨Lc2, hQ2, l2, y2, z2⟩, st2⟩ := Jvm.LawKit.callS X1 hx (y := (⟨"java/lang/Math", "max", "(II)I"⟩ : MethodName)) hown (mvT hZ (hw _ (List.mem_of_getElem? (i := 10) rfl))) (mvT hZ (hw _ (List.mem_of_getElem? (i := 11) rfl))) (mvT hZ (hw _ (List.mem_of_getElem? (i := 12) rfl))) (mvT hZ (hw _ (List.mem_of_getElem? (i := 13) rfl))) (by decide) (backOf (W := 1) (rm3 l Z a0 hw [] x (1 : Int32) h0 n0 Zs) hZ (hw _ (List.mem_of_getElem? (i := 13) rfl)) (hw _ (List.mem_of_getElem? (i := 12) rfl)) (by decide) (by decide)) (g := (mkF m 7 #[.val (.ref a), .val (.int x)] [(.int (1 : Int32)), (.int x), (.ref a)])) rfl (by rw [hml]; rfl) (argsL := [(.int x), (.int (1 : Int32))]) (rest := [(.ref a)]) (lenOf pd_2 rfl) rfl (by show 2 * 0 + _ ≤ _; exact Nat.le_of_eq rfl) (hb hby d1_7) (fun _ _ => ⟨rfl, e1, (by decide : 0 + 0 ≤ _), (by decide : 0 + 0 ≤ _)⟩)
  dsimp only [Pt.U, Pt.locs, Pt.cells, Pt.slots] at X2 l2 y2 z2 st2 hQ2
  subst l2 y2 z2
  obtain ⟨rfl, N2q, e2⟩ := hQ2
  have N := Fr.app N N2q
  refine OwnGo.fwd st2 ?_
  show OwnGo _ _ _ _ (T2.setTop (mkF m 10 #[.val (.ref a), .val (.int x)] [(.int (own_max x (1 : Int32))), (.ref a)]))
  obtain ⟨mx, hv_mx⟩ : ∃ q : Int32, q = (own_max x (1 : Int32)) := ⟨_, rfl⟩
  rw [← hv_mx]
  show OwnGo _ _ _ _ (T2.setTop (mkF m 10 #[.val (.ref a), .val (.int x)] [(.int mx), (.ref a)]))
  have hmx : 1 ≤ mx.toInt ∧ mx.toInt ≤ 5 := by
    have e1 : (1 : Int32).toInt = 1 := by decide
    rw [hv_mx]; unfold own_max; split <;> omega
  obtain ⟨cp, hcp⟩ : ∃ i : Nat, mx.toInt = i := ⟨mx.toInt.toNat, by omega⟩
  have hc_cp : (Int32.ofNat cp).toInt = (cp : Int) := own_ofNat (by omega)
  obtain ⟨T3, h3, b3, X3, e3, E3, g3, V3, st3⟩ := own_newI X2 hx hZ (hw _ (List.mem_of_getElem? (i := 14) rfl)) e2 (g := (mkF m 10 #[.val (.ref a), .val (.int x)] [(.int mx), (.ref a)])) rfl (hb hby d1_10) rfl (i := cp) hcp (cap := 5) (by omega) (by decide) (by decide) (by decide)
  have ne_a_b3 : a ≠ b3 := Nat.ne_of_lt (Nat.lt_of_lt_of_le E_a.lt (Nat.le_of_eq g3.symm))
  have g_b3 : n0 ≤ b3 := Nat.le_trans Zs (Nat.le_of_eq g3.symm)
  have sz_b3 : h0.size ≤ b3 := Nat.le_trans K.1 (Nat.le_of_eq g3.symm)
  have K := K.ext E3
  have Zs := Nat.le_trans Zs E3.1
  have E_a := E_a.ext E3
  have F_documents_a := F_documents_a.ext E3
  have F_frequencies_a := F_frequencies_a.ext E3
  have F_size_a := F_size_a.ext E3
  have F_totalFrequency_a := F_totalFrequency_a.ext E3
  have V_b3 := V3
  refine OwnGo.fwd st3 ?_
  show OwnGo _ _ _ _ (T3.setTop (mkF m 12 #[.val (.ref a), .val (.int x)] [(.ref b3), (.ref a)]))
  obtain ⟨T4, h4, X4, e4, W4, st4⟩ := putF X3 hx hZ hown (host := "") (Or.inl (hw _ (List.mem_of_getElem? (i := 15) rfl))) Via.refl e3 F_documents_a E_a (Or.inl (hw _ (List.mem_of_getElem? (i := 16) rfl))) (hw _ (List.mem_of_getElem? (i := 2) rfl)) (ty := (.array .int)) (by decide) rfl rfl (g := (mkF m 12 #[.val (.ref a), .val (.int x)] [(.ref b3), (.ref a)])) rfl rfl (hb hby d1_12)
  have E_a := E_a.wr W4
  have F_documents_a := F_documents_a.same W4
  have F_frequencies_a := F_frequencies_a.other W4 (Or.inr (slot_ne (Or.inl (hw _ (List.mem_of_getElem? (i := 18) rfl))) (Or.inl (hw _ (List.mem_of_getElem? (i := 16) rfl))) (by decide) (t := (.array .int)) (t' := (.array .int)) (by decide) (by decide)))
  have F_size_a := F_size_a.other W4 (Or.inr (slot_ne (Or.inl (hw _ (List.mem_of_getElem? (i := 25) rfl))) (Or.inl (hw _ (List.mem_of_getElem? (i := 16) rfl))) (by decide) (t := .int) (t' := (.array .int)) (by decide) (by decide)))
  have F_totalFrequency_a := F_totalFrequency_a.other W4 (Or.inr (slot_ne (Or.inl (hw _ (List.mem_of_getElem? (i := 42) rfl))) (Or.inl (hw _ (List.mem_of_getElem? (i := 16) rfl))) (by decide) (t := .long) (t' := (.array .int)) (by decide) (by decide)))
  have V_b3 := V_b3.other W4 (Ne.symm ne_a_b3)
  have K := K.wr W4 (Or.inl (List.mem_of_getElem? (i := 0) rfl))
  have Zs := Nat.le_trans Zs (Keep.of_wr W4).1
  have N := Fr.snoc X4 N g_a
  refine OwnGo.fwd st4 ?_
  show OwnGo _ _ _ _ (T4.setTop (mkF m 15 #[.val (.ref a), .val (.int x)] []))
  refine OwnGo.fwd (fun tq' kq' => XS.aloadN X4.here hx rfl (hb hby d1_15) rfl rfl kq') ?_
  show OwnGo _ _ _ _ (T4.setTop (mkF m 16 #[.val (.ref a), .val (.int x)] [(.ref a)]))
  refine OwnGo.fwd (fun tq' kq' => XS.aloadN X4.here hx rfl (hb hby d1_16) rfl rfl kq') ?_
  show OwnGo _ _ _ _ (T4.setTop (mkF m 17 #[.val (.ref a), .val (.int x)] [(.ref a), (.ref a)]))
  obtain ⟨T5, X5, e5, st5⟩ := getF X4 hx hZ hown (host := "") (Or.inl (hw _ (List.mem_of_getElem? (i := 15) rfl))) Via.refl e4 F_documents_a (g := (mkF m 17 #[.val (.ref a), .val (.int x)] [(.ref a), (.ref a)])) rfl rfl (hb hby d1_17)
  refine OwnGo.fwd st5 ?_
  show OwnGo _ _ _ _ (T5.setTop (mkF m 20 #[.val (.ref a), .val (.int x)] [(.ref b3), (.ref a)]))
  refine OwnGo.fwd (fun tq' kq' => own_len X5 hx hZ e5 V_b3 (g := (mkF m 20 #[.val (.ref a), .val (.int x)] [(.ref b3), (.ref a)])) rfl rfl (hb hby d1_20) tq' kq') ?_
  show OwnGo _ _ _ _ (T5.setTop (mkF m 21 #[.val (.ref a), .val (.int x)] [(.int (Int32.ofNat cp)), (.ref a)]))
  obtain ⟨T6, h6, b6, X6, e6, E6, g6, V6, st6⟩ := own_newI X5 hx hZ (hw _ (List.mem_of_getElem? (i := 14) rfl)) e5 (g := (mkF m 21 #[.val (.ref a), .val (.int x)] [(.int (Int32.ofNat cp)), (.ref a)])) rfl (hb hby d1_21) rfl (i := cp) hc_cp (cap := 5) (by omega) (by decide) (by decide) (by decide)
  have ne_a_b6 : a ≠ b6 := Nat.ne_of_lt (Nat.lt_of_lt_of_le E_a.lt (Nat.le_of_eq g6.symm))
  have ne_b3_b6 : b3 ≠ b6 := Nat.ne_of_lt (Nat.lt_of_lt_of_le V_b3.lt (Nat.le_of_eq g6.symm))
  have g_b6 : n0 ≤ b6 := Nat.le_trans Zs (Nat.le_of_eq g6.symm)
  have sz_b6 : h0.size ≤ b6 := Nat.le_trans K.1 (Nat.le_of_eq g6.symm)
  have K := K.ext E6
  have Zs := Nat.le_trans Zs E6.1
  have E_a := E_a.ext E6
  have F_documents_a := F_documents_a.ext E6
  have F_frequencies_a := F_frequencies_a.ext E6
  have F_size_a := F_size_a.ext E6
  have F_totalFrequency_a := F_totalFrequency_a.ext E6
  have V_b3 := V_b3.ext E6
  have V_b6 := V6
  refine OwnGo.fwd st6 ?_
  show OwnGo _ _ _ _ (T6.setTop (mkF m 23 #[.val (.ref a), .val (.int x)] [(.ref b6), (.ref a)]))
  obtain ⟨T7, h7, X7, e7, W7, st7⟩ := putF X6 hx hZ hown (host := "") (Or.inl (hw _ (List.mem_of_getElem? (i := 17) rfl))) Via.refl e6 F_frequencies_a E_a (Or.inl (hw _ (List.mem_of_getElem? (i := 18) rfl))) (hw _ (List.mem_of_getElem? (i := 2) rfl)) (ty := (.array .int)) (by decide) rfl rfl (g := (mkF m 23 #[.val (.ref a), .val (.int x)] [(.ref b6), (.ref a)])) rfl rfl (hb hby d1_23)
  have E_a := E_a.wr W7
  have F_documents_a := F_documents_a.other W7 (Or.inr (slot_ne (Or.inl (hw _ (List.mem_of_getElem? (i := 16) rfl))) (Or.inl (hw _ (List.mem_of_getElem? (i := 18) rfl))) (by decide) (t := (.array .int)) (t' := (.array .int)) (by decide) (by decide)))
  have F_frequencies_a := F_frequencies_a.same W7
  have F_size_a := F_size_a.other W7 (Or.inr (slot_ne (Or.inl (hw _ (List.mem_of_getElem? (i := 25) rfl))) (Or.inl (hw _ (List.mem_of_getElem? (i := 18) rfl))) (by decide) (t := .int) (t' := (.array .int)) (by decide) (by decide)))
  have F_totalFrequency_a := F_totalFrequency_a.other W7 (Or.inr (slot_ne (Or.inl (hw _ (List.mem_of_getElem? (i := 42) rfl))) (Or.inl (hw _ (List.mem_of_getElem? (i := 18) rfl))) (by decide) (t := .long) (t' := (.array .int)) (by decide) (by decide)))
  have V_b3 := V_b3.other W7 (Ne.symm ne_a_b3)
  have V_b6 := V_b6.other W7 (Ne.symm ne_a_b6)
  have K := K.wr W7 (Or.inl (List.mem_of_getElem? (i := 0) rfl))
  have Zs := Nat.le_trans Zs (Keep.of_wr W7).1
  have N := Fr.snoc X7 N g_a
  refine OwnGo.fwd st7 ?_
  show OwnGo _ _ _ _ (T7.setTop (mkF m 26 #[.val (.ref a), .val (.int x)] []))
  exact own_retV X7 hlk hx Bd.returns (hb hby d1_26) (by decide) (by decide) e7 ⟨rfl, N, K, b3, b6, cp, by omega, by omega, sz_b3, sz_b6, E_a, F_documents_a, F_frequencies_a, F_size_a, F_totalFrequency_a, V_b3, V_b6, ne_a_b3, ne_a_b6, ne_b3_b6, g_a, g_b3, g_b6⟩
theorem d8_0 : decode prog_33_method_3_code 0 = .ok (.aload_n 0, 1) := by decide +kernel
theorem d8_1 : decode prog_33_method_3_code 1 = .ok (.getfield 25, 3) := by decide +kernel
theorem d8_4 : decode prog_33_method_3_code 4 = .ok (.aload_n 0, 1) := by decide +kernel
theorem d8_5 : decode prog_33_method_3_code 5 = .ok (.getfield 18, 3) := by decide +kernel
theorem d8_8 : decode prog_33_method_3_code 8 = .ok (.arraylength, 1) := by decide +kernel
theorem d8_9 : decode prog_33_method_3_code 9 = .ok (.if_icmp .ne 37, 3) := by decide +kernel
theorem d8_12 : decode prog_33_method_3_code 12 = .ok (.aload_n 0, 1) := by decide +kernel
theorem d8_13 : decode prog_33_method_3_code 13 = .ok (.aload_n 0, 1) := by decide +kernel
theorem d8_14 : decode prog_33_method_3_code 14 = .ok (.getfield 18, 3) := by decide +kernel
theorem d8_17 : decode prog_33_method_3_code 17 = .ok (.iconst 2, 1) := by decide +kernel
theorem d8_18 : decode prog_33_method_3_code 18 = .ok (.aload_n 0, 1) := by decide +kernel
theorem d8_19 : decode prog_33_method_3_code 19 = .ok (.getfield 25, 3) := by decide +kernel
theorem d8_22 : decode prog_33_method_3_code 22 = .ok (.imul, 1) := by decide +kernel
theorem d8_23 : decode prog_33_method_3_code 23 = .ok (.invokestatic 29, 3) := by decide +kernel
theorem d8_26 : decode prog_33_method_3_code 26 = .ok (.putfield 18, 3) := by decide +kernel
theorem d8_29 : decode prog_33_method_3_code 29 = .ok (.aload_n 0, 1) := by decide +kernel
theorem d8_30 : decode prog_33_method_3_code 30 = .ok (.aload_n 0, 1) := by decide +kernel
theorem d8_31 : decode prog_33_method_3_code 31 = .ok (.getfield 22, 3) := by decide +kernel
theorem d8_34 : decode prog_33_method_3_code 34 = .ok (.iconst 2, 1) := by decide +kernel
theorem d8_35 : decode prog_33_method_3_code 35 = .ok (.aload_n 0, 1) := by decide +kernel
theorem d8_36 : decode prog_33_method_3_code 36 = .ok (.getfield 25, 3) := by decide +kernel
theorem d8_39 : decode prog_33_method_3_code 39 = .ok (.imul, 1) := by decide +kernel
theorem d8_40 : decode prog_33_method_3_code 40 = .ok (.invokestatic 29, 3) := by decide +kernel
theorem d8_43 : decode prog_33_method_3_code 43 = .ok (.putfield 22, 3) := by decide +kernel
theorem d8_46 : decode prog_33_method_3_code 46 = .ok (.aload_n 0, 1) := by decide +kernel
theorem d8_47 : decode prog_33_method_3_code 47 = .ok (.getfield 18, 3) := by decide +kernel
theorem d8_50 : decode prog_33_method_3_code 50 = .ok (.aload_n 0, 1) := by decide +kernel
theorem d8_51 : decode prog_33_method_3_code 51 = .ok (.getfield 25, 3) := by decide +kernel
theorem d8_54 : decode prog_33_method_3_code 54 = .ok (.iload_n 1, 1) := by decide +kernel
theorem d8_55 : decode prog_33_method_3_code 55 = .ok (.iastore, 1) := by decide +kernel
theorem d8_56 : decode prog_33_method_3_code 56 = .ok (.aload_n 0, 1) := by decide +kernel
theorem d8_57 : decode prog_33_method_3_code 57 = .ok (.getfield 22, 3) := by decide +kernel
theorem d8_60 : decode prog_33_method_3_code 60 = .ok (.aload_n 0, 1) := by decide +kernel
theorem d8_61 : decode prog_33_method_3_code 61 = .ok (.getfield 25, 3) := by decide +kernel
theorem d8_64 : decode prog_33_method_3_code 64 = .ok (.iload_n 2, 1) := by decide +kernel
theorem d8_65 : decode prog_33_method_3_code 65 = .ok (.iastore, 1) := by decide +kernel
theorem d8_66 : decode prog_33_method_3_code 66 = .ok (.aload_n 0, 1) := by decide +kernel
theorem d8_67 : decode prog_33_method_3_code 67 = .ok (.dup, 1) := by decide +kernel
theorem d8_68 : decode prog_33_method_3_code 68 = .ok (.getfield 25, 3) := by decide +kernel
theorem d8_71 : decode prog_33_method_3_code 71 = .ok (.iconst 1, 1) := by decide +kernel
theorem d8_72 : decode prog_33_method_3_code 72 = .ok (.iadd, 1) := by decide +kernel
theorem d8_73 : decode prog_33_method_3_code 73 = .ok (.putfield 25, 3) := by decide +kernel
theorem d8_76 : decode prog_33_method_3_code 76 = .ok (.aload_n 0, 1) := by decide +kernel
theorem d8_77 : decode prog_33_method_3_code 77 = .ok (.dup, 1) := by decide +kernel
theorem d8_78 : decode prog_33_method_3_code 78 = .ok (.getfield 35, 3) := by decide +kernel
theorem d8_81 : decode prog_33_method_3_code 81 = .ok (.iload_n 2, 1) := by decide +kernel
theorem d8_82 : decode prog_33_method_3_code 82 = .ok (.i2l, 1) := by decide +kernel
theorem d8_83 : decode prog_33_method_3_code 83 = .ok (.ladd, 1) := by decide +kernel
theorem d8_84 : decode prog_33_method_3_code 84 = .ok (.putfield 35, 3) := by decide +kernel
theorem d8_87 : decode prog_33_method_3_code 87 = .ok (.return_, 1) := by decide +kernel
theorem pn_8 : plainFor (⟨"com/example/inverse_frequency/inversefrequency/Postings", "add", "(II)V"⟩ : MethodName) = true := plainFor_of_name (by first | (simp [plainName, overriddenIn]; done) | decide +kernel)
theorem ef_8 (m : MethodId) (x0 : Addr) (x1 : Int32) (x2 : Int32) : entryFrame m #[(.ref x0), (.int x1), (.int x2)] 3 = mkF m 0 #[.val (.ref x0), .val (.int x1), .val (.int x2)] [] := by first | (simp [entryFrame, mkF, argsToLocals, Value.category, maxLocals]; done) | rfl
def Q8 (Z : State) (a : Addr) (da : Addr) (fa : Addr) (n : Nat) (t : Int64) (cp : Nat) (f : Nat → Int32) (g : Nat → Int32) (x : Int32) (y : Int32) (h0 : Heap) (n0 : Nat) (v : Option Value) (h : Heap) (L : List Loc) : Prop := v = none ∧ Fr n0 L ∧ Keep h0 h [a, da, fa] ∧ ∃ da' fa' cp' f' g', n < cp' ∧ own_P Z h n0 a da' fa' (n + 1) (t + y.toInt64) cp' f' g' ∧ (∀ i, i < n → f' i = f i) ∧ f' n = x ∧ (∀ i, i < n → g' i = g i) ∧ g' n = y
set_option maxRecDepth 65536 in
set_option maxHeartbeats 40000000 in
theorem rm8 (l : Launch) (Z : State) (a0 : Array Value) (hw : ∀ d ∈ tables_1, d.before a0 Z = true) (ws : List Jvm.Cond) (a : Addr) (da : Addr) (fa : Addr) (n : Nat) (t : Int64) (cp : Nat) (f : Nat → Int32) (g : Nat → Int32) (x : Int32) (y : Int32) (h0 : Heap) (n0 : Nat) (Z0 : n0 ≤ h0.size) (HA : own_P Z h0 n0 a da fa n t cp f g) (hn2 : n ≤ 2) (hncp : n ≤ cp) (hcp1 : 1 ≤ cp) :
    MetFree l (⟨"com/example/inverse_frequency/inversefrequency/Postings", "add", "(II)V"⟩ : MethodName) (head1 (Jvm.Cond.code (⟨"com/example/inverse_frequency/inversefrequency/Postings", "add", "(II)V"⟩ : MethodName) prog_33_method_3_code 3 none :: ws) ({ frames := 2, cells := 2, slots := 8, locals := 80 } : Room)) (fun arr' U => arr' = #[(.ref a), (.int x), (.int y)] ∧ Z.Warmed39 U.vm ∧ U.heap = h0) (fun _ _ _ _ _ => True) (fun _ U o U' => ∃ v L, o = .returned v ∧ (Q8 Z a da fa n t cp f g x y h0 n0) v U'.heap L ∧ FrameEnd U o U' L ({ frames := 2, cells := 2, slots := 8, locals := 80 } : Room).cells ({ frames := 2, cells := 2, slots := 8, locals := 80 } : Room).slots) := by
  refine MetFree.of_bodySF pn_8 hisR ?_
  intro p e s m args below meth c s₁ Bd hml0 hP hK
  obtain ⟨rfl, hZ, hh⟩ := hP
  have hx := Bd.exec
  have hby := Bd.bytes
  have hlk : meth.locks = false := BodyLoose.notSynchronized Bd
  have hml : c.maxLocals = 3 := hml0
  have hown : s.vm.findClass "com/example/inverse_frequency/inversefrequency/Postings" = some m.cls := findClass_of_methodNamed Bd.named
  have hnm := (name_of_methodNamed Bd.named Bd.method).1
  have X0 : Stand p l e ({ frames := 2, cells := 2, slots := 8, locals := 80 } : Room) s m #[(.ref a), (.int x), (.int y)] below meth c s₁ [] 0 0 := Stand.of_body Bd
  have e0 : s₁.heap = h0 := by rw [← hh, Bd.state]; rfl
  have N := Fr.nil n0
  have Zs := Z0
  change OwnGo p.tables e below (OwnEnd s (Q8 Z a da fa n t cp f g x y h0 n0) ({ frames := 2, cells := 2, slots := 8, locals := 80 } : Room).cells ({ frames := 2, cells := 2, slots := 8, locals := 80 } : Room).slots) _
  refine OwnGo.fwd (fun tq' kq' => castTop (ef_8 m a x y) kq') ?_
  show OwnGo _ _ _ _ (s₁.setTop (mkF m 0 #[.val (.ref a), .val (.int x), .val (.int y)] []))
  obtain ⟨E_a, F_documents_a, F_frequencies_a, F_size_a, F_totalFrequency_a, V_da, V_fa, ne_a_da, ne_a_fa, ne_da_fa, g_a, g_da, g_fa⟩ := HA
  have hi_n : (Int32.ofNat n).toInt = (n : Int) := own_ofNat (by omega)
  have hi_cp : (Int32.ofNat cp).toInt = (cp : Int) := own_ofNat (by obtain ⟨_, _, _, r, _⟩ := V_da; exact r)
  have K : Keep h0 h0 [a, da, fa] := Keep.refl _ _
  have K46 : ∀ (T46 : State) (h46 : Heap) (L46 : List Loc) (db fb : Addr) (cq : Nat) (f2 g2 : Nat → Int32), Stand p l e ({ frames := 2, cells := 2, slots := 8, locals := 80 } : Room) s m #[(.ref a), (.int x), (.int y)] below meth c T46 L46 2 8 → T46.heap = h46 → Fr n0 L46 → n0 ≤ h46.size → Keep h0 h46 [a, da, fa] → own_P Z h46 n0 a db fb n t cq f2 g2 → n < cq → (db ∈ [a, da, fa] ∨ h0.size ≤ db) → (fb ∈ [a, da, fa] ∨ h0.size ≤ fb) → (∀ i, i < n → f2 i = f i) → (∀ i, i < n → g2 i = g i) → OwnGo p.tables e below (OwnEnd s (Q8 Z a da fa n t cp f g x y h0 n0) ({ frames := 2, cells := 2, slots := 8, locals := 80 } : Room).cells ({ frames := 2, cells := 2, slots := 8, locals := 80 } : Room).slots) (T46.setTop (mkF m 46 #[.val (.ref a), .val (.int x), .val (.int y)] [])) := by
    intro T46 h46 L46 db fb cq f2 g2 X46 e46 N Zs K ⟨E_a, F_documents_a, F_frequencies_a, F_size_a, F_totalFrequency_a, V_db, V_fb, ne_a_db, ne_a_fb, ne_db_fb, g_a, g_db, g_fb⟩ hncq kdb kfb hf2 hg2
    show OwnGo _ _ _ _ (T46.setTop (mkF m 46 #[.val (.ref a), .val (.int x), .val (.int y)] []))
    refine OwnGo.fwd (fun tq' kq' => XS.aloadN X46.here hx rfl (hb hby d8_46) rfl rfl kq') ?_
    show OwnGo _ _ _ _ (T46.setTop (mkF m 47 #[.val (.ref a), .val (.int x), .val (.int y)] [(.ref a)]))
    obtain ⟨T1, X1, e1, st1⟩ := getF X46 hx hZ hown (host := "") (Or.inl (hw _ (List.mem_of_getElem? (i := 15) rfl))) Via.refl e46 F_documents_a (g := (mkF m 47 #[.val (.ref a), .val (.int x), .val (.int y)] [(.ref a)])) rfl rfl (hb hby d8_47)
    refine OwnGo.fwd st1 ?_
    show OwnGo _ _ _ _ (T1.setTop (mkF m 50 #[.val (.ref a), .val (.int x), .val (.int y)] [(.ref db)]))
    refine OwnGo.fwd (fun tq' kq' => XS.aloadN X1.here hx rfl (hb hby d8_50) rfl rfl kq') ?_
    show OwnGo _ _ _ _ (T1.setTop (mkF m 51 #[.val (.ref a), .val (.int x), .val (.int y)] [(.ref a), (.ref db)]))
    obtain ⟨T2, X2, e2, st2⟩ := getF X1 hx hZ hown (host := "") (Or.inl (hw _ (List.mem_of_getElem? (i := 24) rfl))) Via.refl e1 F_size_a (g := (mkF m 51 #[.val (.ref a), .val (.int x), .val (.int y)] [(.ref a), (.ref db)])) rfl rfl (hb hby d8_51)
    refine OwnGo.fwd st2 ?_
    show OwnGo _ _ _ _ (T2.setTop (mkF m 54 #[.val (.ref a), .val (.int x), .val (.int y)] [(.int (Int32.ofNat n)), (.ref db)]))
    refine OwnGo.fwd (fun tq' kq' => XS.iloadN X2.here hx rfl (hb hby d8_54) rfl kq') ?_
    show OwnGo _ _ _ _ (T2.setTop (mkF m 55 #[.val (.ref a), .val (.int x), .val (.int y)] [(.int x), (.int (Int32.ofNat n)), (.ref db)]))
    obtain ⟨T3, h3, X3, e3, W3, V3, st3⟩ := own_iastore X2 hx hZ e2 V_db (i := n) hi_n hncq (g := (mkF m 55 #[.val (.ref a), .val (.int x), .val (.int y)] [(.int x), (.int (Int32.ofNat n)), (.ref db)])) rfl rfl (hb hby d8_55)
    have E_a := E_a.wr W3
    have F_documents_a := F_documents_a.other W3 (Or.inl ne_a_db)
    have F_frequencies_a := F_frequencies_a.other W3 (Or.inl ne_a_db)
    have F_size_a := F_size_a.other W3 (Or.inl ne_a_db)
    have F_totalFrequency_a := F_totalFrequency_a.other W3 (Or.inl ne_a_db)
    have V_fb := V_fb.other W3 (Ne.symm ne_db_fb)
    have K := K.wr W3 kdb
    have Zs := Nat.le_trans Zs (Keep.of_wr W3).1
    have N := Fr.snoc X3 N g_db
    have V_db := V3
    refine OwnGo.fwd st3 ?_
    show OwnGo _ _ _ _ (T3.setTop (mkF m 56 #[.val (.ref a), .val (.int x), .val (.int y)] []))
    refine OwnGo.fwd (fun tq' kq' => XS.aloadN X3.here hx rfl (hb hby d8_56) rfl rfl kq') ?_
    show OwnGo _ _ _ _ (T3.setTop (mkF m 57 #[.val (.ref a), .val (.int x), .val (.int y)] [(.ref a)]))
    obtain ⟨T4, X4, e4, st4⟩ := getF X3 hx hZ hown (host := "") (Or.inl (hw _ (List.mem_of_getElem? (i := 17) rfl))) Via.refl e3 F_frequencies_a (g := (mkF m 57 #[.val (.ref a), .val (.int x), .val (.int y)] [(.ref a)])) rfl rfl (hb hby d8_57)
    refine OwnGo.fwd st4 ?_
    show OwnGo _ _ _ _ (T4.setTop (mkF m 60 #[.val (.ref a), .val (.int x), .val (.int y)] [(.ref fb)]))
    refine OwnGo.fwd (fun tq' kq' => XS.aloadN X4.here hx rfl (hb hby d8_60) rfl rfl kq') ?_
    show OwnGo _ _ _ _ (T4.setTop (mkF m 61 #[.val (.ref a), .val (.int x), .val (.int y)] [(.ref a), (.ref fb)]))
    obtain ⟨T5, X5, e5, st5⟩ := getF X4 hx hZ hown (host := "") (Or.inl (hw _ (List.mem_of_getElem? (i := 24) rfl))) Via.refl e4 F_size_a (g := (mkF m 61 #[.val (.ref a), .val (.int x), .val (.int y)] [(.ref a), (.ref fb)])) rfl rfl (hb hby d8_61)
    refine OwnGo.fwd st5 ?_
    show OwnGo _ _ _ _ (T5.setTop (mkF m 64 #[.val (.ref a), .val (.int x), .val (.int y)] [(.int (Int32.ofNat n)), (.ref fb)]))
    refine OwnGo.fwd (fun tq' kq' => XS.iloadN X5.here hx rfl (hb hby d8_64) rfl kq') ?_
    show OwnGo _ _ _ _ (T5.setTop (mkF m 65 #[.val (.ref a), .val (.int x), .val (.int y)] [(.int y), (.int (Int32.ofNat n)), (.ref fb)]))
    obtain ⟨T6, h6, X6, e6, W6, V6, st6⟩ := own_iastore X5 hx hZ e5 V_fb (i := n) hi_n hncq (g := (mkF m 65 #[.val (.ref a), .val (.int x), .val (.int y)] [(.int y), (.int (Int32.ofNat n)), (.ref fb)])) rfl rfl (hb hby d8_65)
    have E_a := E_a.wr W6
    have F_documents_a := F_documents_a.other W6 (Or.inl ne_a_fb)
    have F_frequencies_a := F_frequencies_a.other W6 (Or.inl ne_a_fb)
    have F_size_a := F_size_a.other W6 (Or.inl ne_a_fb)
    have F_totalFrequency_a := F_totalFrequency_a.other W6 (Or.inl ne_a_fb)
    have V_db := V_db.other W6 ne_db_fb
    have K := K.wr W6 kfb
    have Zs := Nat.le_trans Zs (Keep.of_wr W6).1
    have N := Fr.snoc X6 N g_fb
    have V_fb := V6
    refine OwnGo.fwd st6 ?_
    show OwnGo _ _ _ _ (T6.setTop (mkF m 66 #[.val (.ref a), .val (.int x), .val (.int y)] []))
    refine OwnGo.fwd (fun tq' kq' => XS.aloadN X6.here hx rfl (hb hby d8_66) rfl rfl kq') ?_
    show OwnGo _ _ _ _ (T6.setTop (mkF m 67 #[.val (.ref a), .val (.int x), .val (.int y)] [(.ref a)]))
    refine OwnGo.fwd (fun tq' kq' => XS.dup X6.here hx rfl (hb hby d8_67) rfl rfl kq') ?_
    show OwnGo _ _ _ _ (T6.setTop (mkF m 68 #[.val (.ref a), .val (.int x), .val (.int y)] [(.ref a), (.ref a)]))
    obtain ⟨T7, X7, e7, st7⟩ := getF X6 hx hZ hown (host := "") (Or.inl (hw _ (List.mem_of_getElem? (i := 24) rfl))) Via.refl e6 F_size_a (g := (mkF m 68 #[.val (.ref a), .val (.int x), .val (.int y)] [(.ref a), (.ref a)])) rfl rfl (hb hby d8_68)
    refine OwnGo.fwd st7 ?_
    show OwnGo _ _ _ _ (T7.setTop (mkF m 71 #[.val (.ref a), .val (.int x), .val (.int y)] [(.int (Int32.ofNat n)), (.ref a)]))
    refine OwnGo.fwd (fun tq' kq' => XS.iconst X7.here hx rfl (hb hby d8_71) kq') ?_
    show OwnGo _ _ _ _ (T7.setTop (mkF m 72 #[.val (.ref a), .val (.int x), .val (.int y)] [(.int (1 : Int32)), (.int (Int32.ofNat n)), (.ref a)]))
    refine OwnGo.fwd (fun tq' kq' => XS.iadd X7.here hx rfl (hb hby d8_72) rfl kq') ?_
    show OwnGo _ _ _ _ (T7.setTop (mkF m 73 #[.val (.ref a), .val (.int x), .val (.int y)] [(.int ((Int32.ofNat n) + (1 : Int32))), (.ref a)]))
    obtain ⟨T8, h8, X8, e8, W8, st8⟩ := putF X7 hx hZ hown (host := "") (Or.inl (hw _ (List.mem_of_getElem? (i := 24) rfl))) Via.refl e7 F_size_a E_a (Or.inl (hw _ (List.mem_of_getElem? (i := 25) rfl))) (hw _ (List.mem_of_getElem? (i := 2) rfl)) (ty := .int) (by decide) rfl rfl (g := (mkF m 73 #[.val (.ref a), .val (.int x), .val (.int y)] [(.int ((Int32.ofNat n) + (1 : Int32))), (.ref a)])) rfl rfl (hb hby d8_73)
    have E_a := E_a.wr W8
    have F_documents_a := F_documents_a.other W8 (Or.inr (slot_ne (Or.inl (hw _ (List.mem_of_getElem? (i := 16) rfl))) (Or.inl (hw _ (List.mem_of_getElem? (i := 25) rfl))) (by decide) (t := (.array .int)) (t' := .int) (by decide) (by decide)))
    have F_frequencies_a := F_frequencies_a.other W8 (Or.inr (slot_ne (Or.inl (hw _ (List.mem_of_getElem? (i := 18) rfl))) (Or.inl (hw _ (List.mem_of_getElem? (i := 25) rfl))) (by decide) (t := (.array .int)) (t' := .int) (by decide) (by decide)))
    have F_size_a := F_size_a.same W8
    have F_totalFrequency_a := F_totalFrequency_a.other W8 (Or.inr (slot_ne (Or.inl (hw _ (List.mem_of_getElem? (i := 42) rfl))) (Or.inl (hw _ (List.mem_of_getElem? (i := 25) rfl))) (by decide) (t := .long) (t' := .int) (by decide) (by decide)))
    have V_db := V_db.other W8 (Ne.symm ne_a_db)
    have V_fb := V_fb.other W8 (Ne.symm ne_a_fb)
    have K := K.wr W8 (Or.inl (List.mem_of_getElem? (i := 0) rfl))
    have Zs := Nat.le_trans Zs (Keep.of_wr W8).1
    have N := Fr.snoc X8 N g_a
    refine OwnGo.fwd st8 ?_
    show OwnGo _ _ _ _ (T8.setTop (mkF m 76 #[.val (.ref a), .val (.int x), .val (.int y)] []))
    refine OwnGo.fwd (fun tq' kq' => XS.aloadN X8.here hx rfl (hb hby d8_76) rfl rfl kq') ?_
    show OwnGo _ _ _ _ (T8.setTop (mkF m 77 #[.val (.ref a), .val (.int x), .val (.int y)] [(.ref a)]))
    refine OwnGo.fwd (fun tq' kq' => XS.dup X8.here hx rfl (hb hby d8_77) rfl rfl kq') ?_
    show OwnGo _ _ _ _ (T8.setTop (mkF m 78 #[.val (.ref a), .val (.int x), .val (.int y)] [(.ref a), (.ref a)]))
    obtain ⟨T9, X9, e9, st9⟩ := getF X8 hx hZ hown (host := "") (Or.inl (hw _ (List.mem_of_getElem? (i := 41) rfl))) Via.refl e8 F_totalFrequency_a (g := (mkF m 78 #[.val (.ref a), .val (.int x), .val (.int y)] [(.ref a), (.ref a)])) rfl rfl (hb hby d8_78)
    refine OwnGo.fwd st9 ?_
    show OwnGo _ _ _ _ (T9.setTop (mkF m 81 #[.val (.ref a), .val (.int x), .val (.int y)] [(.long t), (.ref a)]))
    refine OwnGo.fwd (fun tq' kq' => XS.iloadN X9.here hx rfl (hb hby d8_81) rfl kq') ?_
    show OwnGo _ _ _ _ (T9.setTop (mkF m 82 #[.val (.ref a), .val (.int x), .val (.int y)] [(.int y), (.long t), (.ref a)]))
    refine OwnGo.fwd (fun tq' kq' => XS.i2l X9.here hx rfl (hb hby d8_82) rfl kq') ?_
    show OwnGo _ _ _ _ (T9.setTop (mkF m 83 #[.val (.ref a), .val (.int x), .val (.int y)] [(.long y.toInt64), (.long t), (.ref a)]))
    refine OwnGo.fwd (fun tq' kq' => XS.ladd X9.here hx rfl (hb hby d8_83) rfl kq') ?_
    show OwnGo _ _ _ _ (T9.setTop (mkF m 84 #[.val (.ref a), .val (.int x), .val (.int y)] [(.long (t + y.toInt64)), (.ref a)]))
    obtain ⟨T10, h10, X10, e10, W10, st10⟩ := putF X9 hx hZ hown (host := "") (Or.inl (hw _ (List.mem_of_getElem? (i := 41) rfl))) Via.refl e9 F_totalFrequency_a E_a (Or.inl (hw _ (List.mem_of_getElem? (i := 42) rfl))) (hw _ (List.mem_of_getElem? (i := 2) rfl)) (ty := .long) (by decide) rfl rfl (g := (mkF m 84 #[.val (.ref a), .val (.int x), .val (.int y)] [(.long (t + y.toInt64)), (.ref a)])) rfl rfl (hb hby d8_84)
    have E_a := E_a.wr W10
    have F_documents_a := F_documents_a.other W10 (Or.inr (slot_ne (Or.inl (hw _ (List.mem_of_getElem? (i := 16) rfl))) (Or.inl (hw _ (List.mem_of_getElem? (i := 42) rfl))) (by decide) (t := (.array .int)) (t' := .long) (by decide) (by decide)))
    have F_frequencies_a := F_frequencies_a.other W10 (Or.inr (slot_ne (Or.inl (hw _ (List.mem_of_getElem? (i := 18) rfl))) (Or.inl (hw _ (List.mem_of_getElem? (i := 42) rfl))) (by decide) (t := (.array .int)) (t' := .long) (by decide) (by decide)))
    have F_size_a := F_size_a.other W10 (Or.inr (slot_ne (Or.inl (hw _ (List.mem_of_getElem? (i := 25) rfl))) (Or.inl (hw _ (List.mem_of_getElem? (i := 42) rfl))) (by decide) (t := .int) (t' := .long) (by decide) (by decide)))
    have F_totalFrequency_a := F_totalFrequency_a.same W10
    have V_db := V_db.other W10 (Ne.symm ne_a_db)
    have V_fb := V_fb.other W10 (Ne.symm ne_a_fb)
    have K := K.wr W10 (Or.inl (List.mem_of_getElem? (i := 0) rfl))
    have Zs := Nat.le_trans Zs (Keep.of_wr W10).1
    have N := Fr.snoc X10 N g_a
    refine OwnGo.fwd st10 ?_
    show OwnGo _ _ _ _ (T10.setTop (mkF m 87 #[.val (.ref a), .val (.int x), .val (.int y)] []))
    exact own_retV X10 hlk hx Bd.returns (hb hby d8_87) (by decide) (by decide) e10 ⟨rfl, N, K, db, fb, cq, _, _, hncq, ⟨E_a, F_documents_a, F_frequencies_a, (own_ofNatS n) ▸ F_size_a, F_totalFrequency_a, V_db, V_fb, ne_a_db, ne_a_fb, ne_db_fb, g_a, g_db, g_fb⟩, fun i hi => by simp [Nat.ne_of_lt hi, hf2 i hi], by simp, fun i hi => by simp [Nat.ne_of_lt hi, hg2 i hi], by simp⟩
  refine OwnGo.fwd (fun tq' kq' => XS.aloadN X0.here hx rfl (hb hby d8_0) rfl rfl kq') ?_
  show OwnGo _ _ _ _ (s₁.setTop (mkF m 1 #[.val (.ref a), .val (.int x), .val (.int y)] [(.ref a)]))
  obtain ⟨T11, X11, e11, st11⟩ := getF X0 hx hZ hown (host := "") (Or.inl (hw _ (List.mem_of_getElem? (i := 24) rfl))) Via.refl e0 F_size_a (g := (mkF m 1 #[.val (.ref a), .val (.int x), .val (.int y)] [(.ref a)])) rfl rfl (hb hby d8_1)
  refine OwnGo.fwd st11 ?_
  show OwnGo _ _ _ _ (T11.setTop (mkF m 4 #[.val (.ref a), .val (.int x), .val (.int y)] [(.int (Int32.ofNat n))]))
  refine OwnGo.fwd (fun tq' kq' => XS.aloadN X11.here hx rfl (hb hby d8_4) rfl rfl kq') ?_
  show OwnGo _ _ _ _ (T11.setTop (mkF m 5 #[.val (.ref a), .val (.int x), .val (.int y)] [(.ref a), (.int (Int32.ofNat n))]))
  obtain ⟨T12, X12, e12, st12⟩ := getF X11 hx hZ hown (host := "") (Or.inl (hw _ (List.mem_of_getElem? (i := 15) rfl))) Via.refl e11 F_documents_a (g := (mkF m 5 #[.val (.ref a), .val (.int x), .val (.int y)] [(.ref a), (.int (Int32.ofNat n))])) rfl rfl (hb hby d8_5)
  refine OwnGo.fwd st12 ?_
  show OwnGo _ _ _ _ (T12.setTop (mkF m 8 #[.val (.ref a), .val (.int x), .val (.int y)] [(.ref da), (.int (Int32.ofNat n))]))
  refine OwnGo.fwd (fun tq' kq' => own_len X12 hx hZ e12 V_da (g := (mkF m 8 #[.val (.ref a), .val (.int x), .val (.int y)] [(.ref da), (.int (Int32.ofNat n))])) rfl rfl (hb hby d8_8) tq' kq') ?_
  show OwnGo _ _ _ _ (T12.setTop (mkF m 9 #[.val (.ref a), .val (.int x), .val (.int y)] [(.int (Int32.ofNat cp)), (.int (Int32.ofNat n))]))
  by_cases hc9_13 : (n : Int) = (cp : Int)
  · refine OwnGo.fwd (fun tq' kq' => XS.icmpNo X12.here hx rfl (hb hby d8_9) rfl (own_beq hi_n hi_cp hc9_13).2 kq') ?_
    show OwnGo _ _ _ _ (T12.setTop (mkF m 12 #[.val (.ref a), .val (.int x), .val (.int y)] []))
    refine OwnGo.fwd (fun tq' kq' => XS.aloadN X12.here hx rfl (hb hby d8_12) rfl rfl kq') ?_
    show OwnGo _ _ _ _ (T12.setTop (mkF m 13 #[.val (.ref a), .val (.int x), .val (.int y)] [(.ref a)]))
    refine OwnGo.fwd (fun tq' kq' => XS.aloadN X12.here hx rfl (hb hby d8_13) rfl rfl kq') ?_
    show OwnGo _ _ _ _ (T12.setTop (mkF m 14 #[.val (.ref a), .val (.int x), .val (.int y)] [(.ref a), (.ref a)]))
    obtain ⟨T14, X14, e14, st14⟩ := getF X12 hx hZ hown (host := "") (Or.inl (hw _ (List.mem_of_getElem? (i := 15) rfl))) Via.refl e12 F_documents_a (g := (mkF m 14 #[.val (.ref a), .val (.int x), .val (.int y)] [(.ref a), (.ref a)])) rfl rfl (hb hby d8_14)
    refine OwnGo.fwd st14 ?_
    show OwnGo _ _ _ _ (T14.setTop (mkF m 17 #[.val (.ref a), .val (.int x), .val (.int y)] [(.ref da), (.ref a)]))
    refine OwnGo.fwd (fun tq' kq' => XS.iconst X14.here hx rfl (hb hby d8_17) kq') ?_
    show OwnGo _ _ _ _ (T14.setTop (mkF m 18 #[.val (.ref a), .val (.int x), .val (.int y)] [(.int (2 : Int32)), (.ref da), (.ref a)]))
    refine OwnGo.fwd (fun tq' kq' => XS.aloadN X14.here hx rfl (hb hby d8_18) rfl rfl kq') ?_
    show OwnGo _ _ _ _ (T14.setTop (mkF m 19 #[.val (.ref a), .val (.int x), .val (.int y)] [(.ref a), (.int (2 : Int32)), (.ref da), (.ref a)]))
    obtain ⟨T15, X15, e15, st15⟩ := getF X14 hx hZ hown (host := "") (Or.inl (hw _ (List.mem_of_getElem? (i := 24) rfl))) Via.refl e14 F_size_a (g := (mkF m 19 #[.val (.ref a), .val (.int x), .val (.int y)] [(.ref a), (.int (2 : Int32)), (.ref da), (.ref a)])) rfl rfl (hb hby d8_19)
    refine OwnGo.fwd st15 ?_
    show OwnGo _ _ _ _ (T15.setTop (mkF m 22 #[.val (.ref a), .val (.int x), .val (.int y)] [(.int (Int32.ofNat n)), (.int (2 : Int32)), (.ref da), (.ref a)]))
    refine OwnGo.fwd (fun tq' kq' => XS.imul X15.here hx rfl (hb hby d8_22) rfl kq') ?_
    show OwnGo _ _ _ _ (T15.setTop (mkF m 23 #[.val (.ref a), .val (.int x), .val (.int y)] [(.int ((2 : Int32) * (Int32.ofNat n))), (.ref da), (.ref a)]))
    obtain ⟨_, _, ⟨T16, L16, k16, n16⟩, -, X16, ⟨Lc16, hQ16, l16, y16, z16⟩, st16⟩ := Jvm.LawKit.callS X15 hx (y := (⟨"java/util/Arrays", "copyOf", "([II)[I"⟩ : MethodName)) hown (mvT hZ (hw _ (List.mem_of_getElem? (i := 43) rfl))) (mvT hZ (hw _ (List.mem_of_getElem? (i := 44) rfl))) (mvT hZ (hw _ (List.mem_of_getElem? (i := 28) rfl))) (mvT hZ (hw _ (List.mem_of_getElem? (i := 45) rfl))) (by decide) (backOf (W := 1) (rm9 l Z a0 hw [] da ((2 : Int32) * (Int32.ofNat n)) cp (2 * n) f h0 n0 Zs V_da (own_dbl (by omega)) (by omega) (by omega)) hZ (hw _ (List.mem_of_getElem? (i := 45) rfl)) (hw _ (List.mem_of_getElem? (i := 28) rfl)) (by decide) (by decide)) (g := (mkF m 23 #[.val (.ref a), .val (.int x), .val (.int y)] [(.int ((2 : Int32) * (Int32.ofNat n))), (.ref da), (.ref a)])) rfl (by rw [hml]; rfl) (argsL := [(.ref da), (.int ((2 : Int32) * (Int32.ofNat n)))]) (rest := [(.ref a)]) (lenOf pd_7 rfl) rfl (by show 2 * 0 + _ ≤ _; exact Nat.le_of_eq rfl) (hb hby d8_23) (fun _ _ => ⟨rfl, e15, (by decide : 0 + 1 ≤ _), (by decide : 0 + 4 ≤ _)⟩)
    dsimp only [Pt.U, Pt.locs, Pt.cells, Pt.slots] at X16 l16 y16 z16 st16 hQ16
    subst l16 y16 z16
    have lt_a := E_a.lt
    have lt_da := V_da.lt
    have lt_fa := V_fa.lt
    obtain ⟨r16, g16⟩ : ∃ z, z = h0.size := ⟨_, rfl⟩
    have g_r16 : n0 ≤ r16 := Nat.le_trans Zs (Nat.le_of_eq g16.symm)
    have sz_r16 : h0.size ≤ r16 := Nat.le_trans K.1 (Nat.le_of_eq g16.symm)
    obtain ⟨h16, eh16⟩ : ∃ z, z = T16.heap := ⟨_, rfl⟩
    rw [← eh16] at hQ16
    obtain ⟨rfl, N16q, K16, Vr16⟩ := hQ16
    have N := Fr.app N N16q
    have Zs := Nat.le_trans Zs K16.1
    have E_a := E_a.keep K16
    have F_documents_a := F_documents_a.keep K16 nin0
    have F_frequencies_a := F_frequencies_a.keep K16 nin0
    have F_size_a := F_size_a.keep K16 nin0
    have F_totalFrequency_a := F_totalFrequency_a.keep K16 nin0
    have V_da := V_da.keep K16 nin0
    have V_fa := V_fa.keep K16 nin0
    have K := K.trans K16 all0
    rw [← g16] at Vr16 st16
    have V_r16 := Vr16
    have ne_a_r16 : a ≠ r16 := Nat.ne_of_lt (Nat.lt_of_lt_of_le lt_a (Nat.le_of_eq g16.symm))
    have ne_da_r16 : da ≠ r16 := Nat.ne_of_lt (Nat.lt_of_lt_of_le lt_da (Nat.le_of_eq g16.symm))
    have ne_fa_r16 : fa ≠ r16 := Nat.ne_of_lt (Nat.lt_of_lt_of_le lt_fa (Nat.le_of_eq g16.symm))
    refine OwnGo.fwd st16 ?_
    show OwnGo _ _ _ _ (T16.setTop (mkF m 26 #[.val (.ref a), .val (.int x), .val (.int y)] [(.ref r16), (.ref a)]))
    obtain ⟨T17, h17, X17, e17, W17, st17⟩ := putF X16 hx hZ hown (host := "") (Or.inl (hw _ (List.mem_of_getElem? (i := 15) rfl))) Via.refl eh16.symm F_documents_a E_a (Or.inl (hw _ (List.mem_of_getElem? (i := 16) rfl))) (hw _ (List.mem_of_getElem? (i := 2) rfl)) (ty := (.array .int)) (by decide) rfl rfl (g := (mkF m 26 #[.val (.ref a), .val (.int x), .val (.int y)] [(.ref r16), (.ref a)])) rfl rfl (hb hby d8_26)
    have E_a := E_a.wr W17
    have F_documents_a := F_documents_a.same W17
    have F_frequencies_a := F_frequencies_a.other W17 (Or.inr (slot_ne (Or.inl (hw _ (List.mem_of_getElem? (i := 18) rfl))) (Or.inl (hw _ (List.mem_of_getElem? (i := 16) rfl))) (by decide) (t := (.array .int)) (t' := (.array .int)) (by decide) (by decide)))
    have F_size_a := F_size_a.other W17 (Or.inr (slot_ne (Or.inl (hw _ (List.mem_of_getElem? (i := 25) rfl))) (Or.inl (hw _ (List.mem_of_getElem? (i := 16) rfl))) (by decide) (t := .int) (t' := (.array .int)) (by decide) (by decide)))
    have F_totalFrequency_a := F_totalFrequency_a.other W17 (Or.inr (slot_ne (Or.inl (hw _ (List.mem_of_getElem? (i := 42) rfl))) (Or.inl (hw _ (List.mem_of_getElem? (i := 16) rfl))) (by decide) (t := .long) (t' := (.array .int)) (by decide) (by decide)))
    have V_da := V_da.other W17 (Ne.symm ne_a_da)
    have V_fa := V_fa.other W17 (Ne.symm ne_a_fa)
    have V_r16 := V_r16.other W17 (Ne.symm ne_a_r16)
    have K := K.wr W17 (Or.inl (List.mem_of_getElem? (i := 0) rfl))
    have Zs := Nat.le_trans Zs (Keep.of_wr W17).1
    have N := Fr.snoc X17 N g_a
    refine OwnGo.fwd st17 ?_
    show OwnGo _ _ _ _ (T17.setTop (mkF m 29 #[.val (.ref a), .val (.int x), .val (.int y)] []))
    refine OwnGo.fwd (fun tq' kq' => XS.aloadN X17.here hx rfl (hb hby d8_29) rfl rfl kq') ?_
    show OwnGo _ _ _ _ (T17.setTop (mkF m 30 #[.val (.ref a), .val (.int x), .val (.int y)] [(.ref a)]))
    refine OwnGo.fwd (fun tq' kq' => XS.aloadN X17.here hx rfl (hb hby d8_30) rfl rfl kq') ?_
    show OwnGo _ _ _ _ (T17.setTop (mkF m 31 #[.val (.ref a), .val (.int x), .val (.int y)] [(.ref a), (.ref a)]))
    obtain ⟨T18, X18, e18, st18⟩ := getF X17 hx hZ hown (host := "") (Or.inl (hw _ (List.mem_of_getElem? (i := 17) rfl))) Via.refl e17 F_frequencies_a (g := (mkF m 31 #[.val (.ref a), .val (.int x), .val (.int y)] [(.ref a), (.ref a)])) rfl rfl (hb hby d8_31)
    refine OwnGo.fwd st18 ?_
    show OwnGo _ _ _ _ (T18.setTop (mkF m 34 #[.val (.ref a), .val (.int x), .val (.int y)] [(.ref fa), (.ref a)]))
    refine OwnGo.fwd (fun tq' kq' => XS.iconst X18.here hx rfl (hb hby d8_34) kq') ?_
    show OwnGo _ _ _ _ (T18.setTop (mkF m 35 #[.val (.ref a), .val (.int x), .val (.int y)] [(.int (2 : Int32)), (.ref fa), (.ref a)]))
    refine OwnGo.fwd (fun tq' kq' => XS.aloadN X18.here hx rfl (hb hby d8_35) rfl rfl kq') ?_
    show OwnGo _ _ _ _ (T18.setTop (mkF m 36 #[.val (.ref a), .val (.int x), .val (.int y)] [(.ref a), (.int (2 : Int32)), (.ref fa), (.ref a)]))
    obtain ⟨T19, X19, e19, st19⟩ := getF X18 hx hZ hown (host := "") (Or.inl (hw _ (List.mem_of_getElem? (i := 24) rfl))) Via.refl e18 F_size_a (g := (mkF m 36 #[.val (.ref a), .val (.int x), .val (.int y)] [(.ref a), (.int (2 : Int32)), (.ref fa), (.ref a)])) rfl rfl (hb hby d8_36)
    refine OwnGo.fwd st19 ?_
    show OwnGo _ _ _ _ (T19.setTop (mkF m 39 #[.val (.ref a), .val (.int x), .val (.int y)] [(.int (Int32.ofNat n)), (.int (2 : Int32)), (.ref fa), (.ref a)]))
    refine OwnGo.fwd (fun tq' kq' => XS.imul X19.here hx rfl (hb hby d8_39) rfl kq') ?_
    show OwnGo _ _ _ _ (T19.setTop (mkF m 40 #[.val (.ref a), .val (.int x), .val (.int y)] [(.int ((2 : Int32) * (Int32.ofNat n))), (.ref fa), (.ref a)]))
    obtain ⟨_, _, ⟨T20, L20, k20, n20⟩, -, X20, ⟨Lc20, hQ20, l20, y20, z20⟩, st20⟩ := Jvm.LawKit.callS X19 hx (y := (⟨"java/util/Arrays", "copyOf", "([II)[I"⟩ : MethodName)) hown (mvT hZ (hw _ (List.mem_of_getElem? (i := 43) rfl))) (mvT hZ (hw _ (List.mem_of_getElem? (i := 44) rfl))) (mvT hZ (hw _ (List.mem_of_getElem? (i := 28) rfl))) (mvT hZ (hw _ (List.mem_of_getElem? (i := 45) rfl))) (by decide) (backOf (W := 1) (rm9 l Z a0 hw [] fa ((2 : Int32) * (Int32.ofNat n)) cp (2 * n) g h17 n0 Zs V_fa (own_dbl (by omega)) (by omega) (by omega)) hZ (hw _ (List.mem_of_getElem? (i := 45) rfl)) (hw _ (List.mem_of_getElem? (i := 28) rfl)) (by decide) (by decide)) (g := (mkF m 40 #[.val (.ref a), .val (.int x), .val (.int y)] [(.int ((2 : Int32) * (Int32.ofNat n))), (.ref fa), (.ref a)])) rfl (by rw [hml]; rfl) (argsL := [(.ref fa), (.int ((2 : Int32) * (Int32.ofNat n)))]) (rest := [(.ref a)]) (lenOf pd_7 rfl) rfl (by show 2 * 0 + _ ≤ _; exact Nat.le_of_eq rfl) (hb hby d8_40) (fun _ _ => ⟨rfl, e19, (by decide : 1 + 1 ≤ _), (by decide : 4 + 4 ≤ _)⟩)
    dsimp only [Pt.U, Pt.locs, Pt.cells, Pt.slots] at X20 l20 y20 z20 st20 hQ20
    subst l20 y20 z20
    have lt_a := E_a.lt
    have lt_da := V_da.lt
    have lt_fa := V_fa.lt
    have lt_r16 := V_r16.lt
    obtain ⟨r20, g20⟩ : ∃ z, z = h17.size := ⟨_, rfl⟩
    have g_r20 : n0 ≤ r20 := Nat.le_trans Zs (Nat.le_of_eq g20.symm)
    have sz_r20 : h0.size ≤ r20 := Nat.le_trans K.1 (Nat.le_of_eq g20.symm)
    obtain ⟨h20, eh20⟩ : ∃ z, z = T20.heap := ⟨_, rfl⟩
    rw [← eh20] at hQ20
    obtain ⟨rfl, N20q, K20, Vr20⟩ := hQ20
    have N := Fr.app N N20q
    have Zs := Nat.le_trans Zs K20.1
    have E_a := E_a.keep K20
    have F_documents_a := F_documents_a.keep K20 nin0
    have F_frequencies_a := F_frequencies_a.keep K20 nin0
    have F_size_a := F_size_a.keep K20 nin0
    have F_totalFrequency_a := F_totalFrequency_a.keep K20 nin0
    have V_da := V_da.keep K20 nin0
    have V_fa := V_fa.keep K20 nin0
    have V_r16 := V_r16.keep K20 nin0
    have K := K.trans K20 all0
    rw [← g20] at Vr20 st20
    have V_r20 := Vr20
    have ne_a_r20 : a ≠ r20 := Nat.ne_of_lt (Nat.lt_of_lt_of_le lt_a (Nat.le_of_eq g20.symm))
    have ne_da_r20 : da ≠ r20 := Nat.ne_of_lt (Nat.lt_of_lt_of_le lt_da (Nat.le_of_eq g20.symm))
    have ne_fa_r20 : fa ≠ r20 := Nat.ne_of_lt (Nat.lt_of_lt_of_le lt_fa (Nat.le_of_eq g20.symm))
    have ne_r16_r20 : r16 ≠ r20 := Nat.ne_of_lt (Nat.lt_of_lt_of_le lt_r16 (Nat.le_of_eq g20.symm))
    refine OwnGo.fwd st20 ?_
    show OwnGo _ _ _ _ (T20.setTop (mkF m 43 #[.val (.ref a), .val (.int x), .val (.int y)] [(.ref r20), (.ref a)]))
    obtain ⟨T21, h21, X21, e21, W21, st21⟩ := putF X20 hx hZ hown (host := "") (Or.inl (hw _ (List.mem_of_getElem? (i := 17) rfl))) Via.refl eh20.symm F_frequencies_a E_a (Or.inl (hw _ (List.mem_of_getElem? (i := 18) rfl))) (hw _ (List.mem_of_getElem? (i := 2) rfl)) (ty := (.array .int)) (by decide) rfl rfl (g := (mkF m 43 #[.val (.ref a), .val (.int x), .val (.int y)] [(.ref r20), (.ref a)])) rfl rfl (hb hby d8_43)
    have E_a := E_a.wr W21
    have F_documents_a := F_documents_a.other W21 (Or.inr (slot_ne (Or.inl (hw _ (List.mem_of_getElem? (i := 16) rfl))) (Or.inl (hw _ (List.mem_of_getElem? (i := 18) rfl))) (by decide) (t := (.array .int)) (t' := (.array .int)) (by decide) (by decide)))
    have F_frequencies_a := F_frequencies_a.same W21
    have F_size_a := F_size_a.other W21 (Or.inr (slot_ne (Or.inl (hw _ (List.mem_of_getElem? (i := 25) rfl))) (Or.inl (hw _ (List.mem_of_getElem? (i := 18) rfl))) (by decide) (t := .int) (t' := (.array .int)) (by decide) (by decide)))
    have F_totalFrequency_a := F_totalFrequency_a.other W21 (Or.inr (slot_ne (Or.inl (hw _ (List.mem_of_getElem? (i := 42) rfl))) (Or.inl (hw _ (List.mem_of_getElem? (i := 18) rfl))) (by decide) (t := .long) (t' := (.array .int)) (by decide) (by decide)))
    have V_da := V_da.other W21 (Ne.symm ne_a_da)
    have V_fa := V_fa.other W21 (Ne.symm ne_a_fa)
    have V_r16 := V_r16.other W21 (Ne.symm ne_a_r16)
    have V_r20 := V_r20.other W21 (Ne.symm ne_a_r20)
    have K := K.wr W21 (Or.inl (List.mem_of_getElem? (i := 0) rfl))
    have Zs := Nat.le_trans Zs (Keep.of_wr W21).1
    have N := Fr.snoc X21 N g_a
    refine OwnGo.fwd st21 ?_
    show OwnGo _ _ _ _ (T21.setTop (mkF m 46 #[.val (.ref a), .val (.int x), .val (.int y)] []))
    exact K46 _ _ _ r16 r20 (2 * n) _ _ (X21) e21 N Zs K ⟨E_a, F_documents_a, F_frequencies_a, F_size_a, F_totalFrequency_a, V_r16, V_r20, ne_a_r16, ne_a_r20, ne_r16_r20, g_a, g_r16, g_r20⟩ (by omega) (Or.inr sz_r16) (Or.inr sz_r20) (fun i hi => by simp [show i < cp by omega]) (fun i hi => by simp [show i < cp by omega])
  · refine OwnGo.fwd (fun tq' kq' => XS.icmpYes X12.here hx rfl (pc0 := 9) (pc' := 46) rfl (hb hby d8_9) rfl (own_bneq hi_n hi_cp hc9_13).2 (by decide) (by decide) kq') ?_
    show OwnGo _ _ _ _ (T12.setTop (mkF m 46 #[.val (.ref a), .val (.int x), .val (.int y)] []))
    exact K46 _ _ _ da fa cp _ _ (X12.more (by decide) (by decide)) e12 N Zs K ⟨E_a, F_documents_a, F_frequencies_a, F_size_a, F_totalFrequency_a, V_da, V_fa, ne_a_da, ne_a_fa, ne_da_fa, g_a, g_da, g_fa⟩ (by omega) (Or.inl (List.mem_of_getElem? (i := 1) rfl)) (Or.inl (List.mem_of_getElem? (i := 2) rfl)) (fun _ _ => rfl) (fun _ _ => rfl)
theorem d6_0 : decode jdk_65_method_30_code 0 = .ok (.iload_n 1, 1) := by decide +kernel
theorem d6_1 : decode jdk_65_method_30_code 1 = .ok (.iload_n 2, 1) := by decide +kernel
theorem d6_2 : decode jdk_65_method_30_code 2 = .ok (.if_icmp .le 44, 3) := by decide +kernel
theorem d6_5 : decode jdk_65_method_30_code 5 = .ok (.new 43, 3) := by decide +kernel
theorem d6_8 : decode jdk_65_method_30_code 8 = .ok (.dup, 1) := by decide +kernel
theorem d6_9 : decode jdk_65_method_30_code 9 = .ok (.new 45, 3) := by decide +kernel
theorem d6_12 : decode jdk_65_method_30_code 12 = .ok (.dup, 1) := by decide +kernel
theorem d6_13 : decode jdk_65_method_30_code 13 = .ok (.invokespecial 47, 3) := by decide +kernel
theorem d6_16 : decode jdk_65_method_30_code 16 = .ok (.ldc 48, 2) := by decide +kernel
theorem d6_18 : decode jdk_65_method_30_code 18 = .ok (.invokevirtual 50, 3) := by decide +kernel
theorem d6_21 : decode jdk_65_method_30_code 21 = .ok (.iload_n 1, 1) := by decide +kernel
theorem d6_22 : decode jdk_65_method_30_code 22 = .ok (.invokevirtual 54, 3) := by decide +kernel
theorem d6_25 : decode jdk_65_method_30_code 25 = .ok (.ldc 57, 2) := by decide +kernel
theorem d6_27 : decode jdk_65_method_30_code 27 = .ok (.invokevirtual 50, 3) := by decide +kernel
theorem d6_30 : decode jdk_65_method_30_code 30 = .ok (.iload_n 2, 1) := by decide +kernel
theorem d6_31 : decode jdk_65_method_30_code 31 = .ok (.invokevirtual 54, 3) := by decide +kernel
theorem d6_34 : decode jdk_65_method_30_code 34 = .ok (.ldc 59, 2) := by decide +kernel
theorem d6_36 : decode jdk_65_method_30_code 36 = .ok (.invokevirtual 50, 3) := by decide +kernel
theorem d6_39 : decode jdk_65_method_30_code 39 = .ok (.invokevirtual 61, 3) := by decide +kernel
theorem d6_42 : decode jdk_65_method_30_code 42 = .ok (.invokespecial 65, 3) := by decide +kernel
theorem d6_45 : decode jdk_65_method_30_code 45 = .ok (.athrow, 1) := by decide +kernel
theorem d6_46 : decode jdk_65_method_30_code 46 = .ok (.iload_n 1, 1) := by decide +kernel
theorem d6_47 : decode jdk_65_method_30_code 47 = .ok (.ifCond .ge 12, 3) := by decide +kernel
theorem d6_50 : decode jdk_65_method_30_code 50 = .ok (.new 68, 3) := by decide +kernel
theorem d6_53 : decode jdk_65_method_30_code 53 = .ok (.dup, 1) := by decide +kernel
theorem d6_54 : decode jdk_65_method_30_code 54 = .ok (.iload_n 1, 1) := by decide +kernel
theorem d6_55 : decode jdk_65_method_30_code 55 = .ok (.invokespecial 70, 3) := by decide +kernel
theorem d6_58 : decode jdk_65_method_30_code 58 = .ok (.athrow, 1) := by decide +kernel
theorem d6_59 : decode jdk_65_method_30_code 59 = .ok (.iload_n 2, 1) := by decide +kernel
theorem d6_60 : decode jdk_65_method_30_code 60 = .ok (.iload_n 0, 1) := by decide +kernel
theorem d6_61 : decode jdk_65_method_30_code 61 = .ok (.if_icmp .le 12, 3) := by decide +kernel
theorem d6_64 : decode jdk_65_method_30_code 64 = .ok (.new 68, 3) := by decide +kernel
theorem d6_67 : decode jdk_65_method_30_code 67 = .ok (.dup, 1) := by decide +kernel
theorem d6_68 : decode jdk_65_method_30_code 68 = .ok (.iload_n 2, 1) := by decide +kernel
theorem d6_69 : decode jdk_65_method_30_code 69 = .ok (.invokespecial 70, 3) := by decide +kernel
theorem d6_72 : decode jdk_65_method_30_code 72 = .ok (.athrow, 1) := by decide +kernel
theorem d6_73 : decode jdk_65_method_30_code 73 = .ok (.return_, 1) := by decide +kernel
theorem pn_6 : plainFor (⟨"java/util/Arrays", "rangeCheck", "(III)V"⟩ : MethodName) = true := plainFor_of_name (by first | (simp [plainName, overriddenIn]; done) | decide +kernel)
theorem ef_6n0 (m : MethodId) (x0 : Int32) (x1 : Int32) (x2 : Int32) : entryFrame m #[(.int x0), (.int x1), (.int x2)] 3 = mkF m 0 #[.val (.int x0), .val (.int x1), .val (.int x2)] [] := by first | (simp [entryFrame, mkF, argsToLocals, Value.category, maxLocals]; done) | rfl
def Q6n0 (Z : State) (cp : Nat) (h0 : Heap) (n0 : Nat) (v : Option Value) (h : Heap) (L : List Loc) : Prop := v = none ∧ Fr n0 L ∧ h = h0
set_option maxRecDepth 65536 in
set_option maxHeartbeats 40000000 in
theorem rm6n0 (l : Launch) (Z : State) (a0 : Array Value) (hw : ∀ d ∈ tables_1, d.before a0 Z = true) (ws : List Jvm.Cond) (cp : Nat) (h0 : Heap) (n0 : Nat) (Z0 : n0 ≤ h0.size) (hcp : (Int32.ofNat cp).toInt = (cp : Int)) (hn : 0 ≤ cp) :
    MetFree l (⟨"java/util/Arrays", "rangeCheck", "(III)V"⟩ : MethodName) (head1 (Jvm.Cond.code (⟨"java/util/Arrays", "rangeCheck", "(III)V"⟩ : MethodName) jdk_65_method_30_code 3 none :: ws) ({ frames := 0, cells := 0, slots := 0, locals := 0 } : Room)) (fun arr' U => arr' = #[(.int (Int32.ofNat cp)), (.int (0 : Int32)), (.int (0 : Int32))] ∧ Z.Warmed39 U.vm ∧ U.heap = h0) (fun _ _ _ _ _ => True) (fun _ U o U' => ∃ v L, o = .returned v ∧ (Q6n0 Z cp h0 n0) v U'.heap L ∧ FrameEnd U o U' L ({ frames := 0, cells := 0, slots := 0, locals := 0 } : Room).cells ({ frames := 0, cells := 0, slots := 0, locals := 0 } : Room).slots) := by
  refine MetFree.of_bodySF pn_6 hisR ?_
  intro p e s m args below meth c s₁ Bd hml0 hP hK
  obtain ⟨rfl, hZ, hh⟩ := hP
  have hx := Bd.exec
  have hby := Bd.bytes
  have hlk : meth.locks = false := BodyLoose.notSynchronized Bd
  have hml : c.maxLocals = 3 := hml0
  have hown : s.vm.findClass "java/util/Arrays" = some m.cls := findClass_of_methodNamed Bd.named
  have hnm := (name_of_methodNamed Bd.named Bd.method).1
  have X0 : Stand p l e ({ frames := 0, cells := 0, slots := 0, locals := 0 } : Room) s m #[(.int (Int32.ofNat cp)), (.int (0 : Int32)), (.int (0 : Int32))] below meth c s₁ [] 0 0 := Stand.of_body Bd
  have e0 : s₁.heap = h0 := by rw [← hh, Bd.state]; rfl
  have N := Fr.nil n0
  have Zs := Z0
  change OwnGo p.tables e below (OwnEnd s (Q6n0 Z cp h0 n0) ({ frames := 0, cells := 0, slots := 0, locals := 0 } : Room).cells ({ frames := 0, cells := 0, slots := 0, locals := 0 } : Room).slots) _
  refine OwnGo.fwd (fun tq' kq' => castTop (ef_6n0 m (Int32.ofNat cp) (0 : Int32) (0 : Int32)) kq') ?_
  show OwnGo _ _ _ _ (s₁.setTop (mkF m 0 #[.val (.int (Int32.ofNat cp)), .val (.int (0 : Int32)), .val (.int (0 : Int32))] []))
  refine OwnGo.fwd (fun tq' kq' => XS.iloadN X0.here hx rfl (hb hby d6_0) rfl kq') ?_
  show OwnGo _ _ _ _ (s₁.setTop (mkF m 1 #[.val (.int (Int32.ofNat cp)), .val (.int (0 : Int32)), .val (.int (0 : Int32))] [(.int (0 : Int32))]))
  refine OwnGo.fwd (fun tq' kq' => XS.iloadN X0.here hx rfl (hb hby d6_1) rfl kq') ?_
  show OwnGo _ _ _ _ (s₁.setTop (mkF m 2 #[.val (.int (Int32.ofNat cp)), .val (.int (0 : Int32)), .val (.int (0 : Int32))] [(.int (0 : Int32)), (.int (0 : Int32))]))
  have hc2_1 : ¬ ((0 : Int) < (0 : Int)) := by decide
  refine OwnGo.fwd (fun tq' kq' => XS.icmpYes X0.here hx rfl (pc0 := 2) (pc' := 46) rfl (hb hby d6_2) rfl (own_bnlt (by decide) (by decide) hc2_1).2.2.2 (by decide) (by decide) kq') ?_
  show OwnGo _ _ _ _ (s₁.setTop (mkF m 46 #[.val (.int (Int32.ofNat cp)), .val (.int (0 : Int32)), .val (.int (0 : Int32))] []))
  refine OwnGo.fwd (fun tq' kq' => XS.iloadN X0.here hx rfl (hb hby d6_46) rfl kq') ?_
  show OwnGo _ _ _ _ (s₁.setTop (mkF m 47 #[.val (.int (Int32.ofNat cp)), .val (.int (0 : Int32)), .val (.int (0 : Int32))] [(.int (0 : Int32))]))
  have hc47_2 : ¬ ((0 : Int) < (0 : Int)) := by decide
  refine OwnGo.fwd (fun tq' kq' => XS.ifYes X0.here hx rfl (pc0 := 47) (pc' := 59) rfl (hb hby d6_47) rfl ((if0 _ _).trans (own_bnlt (by decide) (by decide) hc47_2).2.1) (by decide) (by decide) kq') ?_
  show OwnGo _ _ _ _ (s₁.setTop (mkF m 59 #[.val (.int (Int32.ofNat cp)), .val (.int (0 : Int32)), .val (.int (0 : Int32))] []))
  refine OwnGo.fwd (fun tq' kq' => XS.iloadN X0.here hx rfl (hb hby d6_59) rfl kq') ?_
  show OwnGo _ _ _ _ (s₁.setTop (mkF m 60 #[.val (.int (Int32.ofNat cp)), .val (.int (0 : Int32)), .val (.int (0 : Int32))] [(.int (0 : Int32))]))
  refine OwnGo.fwd (fun tq' kq' => XS.iloadN X0.here hx rfl (hb hby d6_60) rfl kq') ?_
  show OwnGo _ _ _ _ (s₁.setTop (mkF m 61 #[.val (.int (Int32.ofNat cp)), .val (.int (0 : Int32)), .val (.int (0 : Int32))] [(.int (Int32.ofNat cp)), (.int (0 : Int32))]))
  have hc61_3 : ¬ ((cp : Int) < 0) := by omega
  refine OwnGo.fwd (fun tq' kq' => XS.icmpYes X0.here hx rfl (pc0 := 61) (pc' := 73) rfl (hb hby d6_61) rfl (own_bnlt hcp (by decide) hc61_3).2.2.2 (by decide) (by decide) kq') ?_
  show OwnGo _ _ _ _ (s₁.setTop (mkF m 73 #[.val (.int (Int32.ofNat cp)), .val (.int (0 : Int32)), .val (.int (0 : Int32))] []))
  exact own_retV X0 hlk hx Bd.returns (hb hby d6_73) (by decide) (by decide) e0 ⟨rfl, N, rfl⟩
theorem ef_6n1 (m : MethodId) (x0 : Int32) (x1 : Int32) (x2 : Int32) : entryFrame m #[(.int x0), (.int x1), (.int x2)] 3 = mkF m 0 #[.val (.int x0), .val (.int x1), .val (.int x2)] [] := by first | (simp [entryFrame, mkF, argsToLocals, Value.category, maxLocals]; done) | rfl
def Q6n1 (Z : State) (cp : Nat) (h0 : Heap) (n0 : Nat) (v : Option Value) (h : Heap) (L : List Loc) : Prop := v = none ∧ Fr n0 L ∧ h = h0
set_option maxRecDepth 65536 in
set_option maxHeartbeats 40000000 in
theorem rm6n1 (l : Launch) (Z : State) (a0 : Array Value) (hw : ∀ d ∈ tables_1, d.before a0 Z = true) (ws : List Jvm.Cond) (cp : Nat) (h0 : Heap) (n0 : Nat) (Z0 : n0 ≤ h0.size) (hcp : (Int32.ofNat cp).toInt = (cp : Int)) (hn : 1 ≤ cp) :
    MetFree l (⟨"java/util/Arrays", "rangeCheck", "(III)V"⟩ : MethodName) (head1 (Jvm.Cond.code (⟨"java/util/Arrays", "rangeCheck", "(III)V"⟩ : MethodName) jdk_65_method_30_code 3 none :: ws) ({ frames := 0, cells := 0, slots := 0, locals := 0 } : Room)) (fun arr' U => arr' = #[(.int (Int32.ofNat cp)), (.int (0 : Int32)), (.int (1 : Int32))] ∧ Z.Warmed39 U.vm ∧ U.heap = h0) (fun _ _ _ _ _ => True) (fun _ U o U' => ∃ v L, o = .returned v ∧ (Q6n1 Z cp h0 n0) v U'.heap L ∧ FrameEnd U o U' L ({ frames := 0, cells := 0, slots := 0, locals := 0 } : Room).cells ({ frames := 0, cells := 0, slots := 0, locals := 0 } : Room).slots) := by
  refine MetFree.of_bodySF pn_6 hisR ?_
  intro p e s m args below meth c s₁ Bd hml0 hP hK
  obtain ⟨rfl, hZ, hh⟩ := hP
  have hx := Bd.exec
  have hby := Bd.bytes
  have hlk : meth.locks = false := BodyLoose.notSynchronized Bd
  have hml : c.maxLocals = 3 := hml0
  have hown : s.vm.findClass "java/util/Arrays" = some m.cls := findClass_of_methodNamed Bd.named
  have hnm := (name_of_methodNamed Bd.named Bd.method).1
  have X0 : Stand p l e ({ frames := 0, cells := 0, slots := 0, locals := 0 } : Room) s m #[(.int (Int32.ofNat cp)), (.int (0 : Int32)), (.int (1 : Int32))] below meth c s₁ [] 0 0 := Stand.of_body Bd
  have e0 : s₁.heap = h0 := by rw [← hh, Bd.state]; rfl
  have N := Fr.nil n0
  have Zs := Z0
  change OwnGo p.tables e below (OwnEnd s (Q6n1 Z cp h0 n0) ({ frames := 0, cells := 0, slots := 0, locals := 0 } : Room).cells ({ frames := 0, cells := 0, slots := 0, locals := 0 } : Room).slots) _
  refine OwnGo.fwd (fun tq' kq' => castTop (ef_6n1 m (Int32.ofNat cp) (0 : Int32) (1 : Int32)) kq') ?_
  show OwnGo _ _ _ _ (s₁.setTop (mkF m 0 #[.val (.int (Int32.ofNat cp)), .val (.int (0 : Int32)), .val (.int (1 : Int32))] []))
  refine OwnGo.fwd (fun tq' kq' => XS.iloadN X0.here hx rfl (hb hby d6_0) rfl kq') ?_
  show OwnGo _ _ _ _ (s₁.setTop (mkF m 1 #[.val (.int (Int32.ofNat cp)), .val (.int (0 : Int32)), .val (.int (1 : Int32))] [(.int (0 : Int32))]))
  refine OwnGo.fwd (fun tq' kq' => XS.iloadN X0.here hx rfl (hb hby d6_1) rfl kq') ?_
  show OwnGo _ _ _ _ (s₁.setTop (mkF m 2 #[.val (.int (Int32.ofNat cp)), .val (.int (0 : Int32)), .val (.int (1 : Int32))] [(.int (1 : Int32)), (.int (0 : Int32))]))
  have hc2_1 : ¬ ((1 : Int) < (0 : Int)) := by decide
  refine OwnGo.fwd (fun tq' kq' => XS.icmpYes X0.here hx rfl (pc0 := 2) (pc' := 46) rfl (hb hby d6_2) rfl (own_bnlt (by decide) (by decide) hc2_1).2.2.2 (by decide) (by decide) kq') ?_
  show OwnGo _ _ _ _ (s₁.setTop (mkF m 46 #[.val (.int (Int32.ofNat cp)), .val (.int (0 : Int32)), .val (.int (1 : Int32))] []))
  refine OwnGo.fwd (fun tq' kq' => XS.iloadN X0.here hx rfl (hb hby d6_46) rfl kq') ?_
  show OwnGo _ _ _ _ (s₁.setTop (mkF m 47 #[.val (.int (Int32.ofNat cp)), .val (.int (0 : Int32)), .val (.int (1 : Int32))] [(.int (0 : Int32))]))
  have hc47_2 : ¬ ((0 : Int) < (0 : Int)) := by decide
  refine OwnGo.fwd (fun tq' kq' => XS.ifYes X0.here hx rfl (pc0 := 47) (pc' := 59) rfl (hb hby d6_47) rfl ((if0 _ _).trans (own_bnlt (by decide) (by decide) hc47_2).2.1) (by decide) (by decide) kq') ?_
  show OwnGo _ _ _ _ (s₁.setTop (mkF m 59 #[.val (.int (Int32.ofNat cp)), .val (.int (0 : Int32)), .val (.int (1 : Int32))] []))
  refine OwnGo.fwd (fun tq' kq' => XS.iloadN X0.here hx rfl (hb hby d6_59) rfl kq') ?_
  show OwnGo _ _ _ _ (s₁.setTop (mkF m 60 #[.val (.int (Int32.ofNat cp)), .val (.int (0 : Int32)), .val (.int (1 : Int32))] [(.int (1 : Int32))]))
  refine OwnGo.fwd (fun tq' kq' => XS.iloadN X0.here hx rfl (hb hby d6_60) rfl kq') ?_
  show OwnGo _ _ _ _ (s₁.setTop (mkF m 61 #[.val (.int (Int32.ofNat cp)), .val (.int (0 : Int32)), .val (.int (1 : Int32))] [(.int (Int32.ofNat cp)), (.int (1 : Int32))]))
  have hc61_3 : ¬ ((cp : Int) < 1) := by omega
  refine OwnGo.fwd (fun tq' kq' => XS.icmpYes X0.here hx rfl (pc0 := 61) (pc' := 73) rfl (hb hby d6_61) rfl (own_bnlt hcp (by decide) hc61_3).2.2.2 (by decide) (by decide) kq') ?_
  show OwnGo _ _ _ _ (s₁.setTop (mkF m 73 #[.val (.int (Int32.ofNat cp)), .val (.int (0 : Int32)), .val (.int (1 : Int32))] []))
  exact own_retV X0 hlk hx Bd.returns (hb hby d6_73) (by decide) (by decide) e0 ⟨rfl, N, rfl⟩
theorem ef_6n2 (m : MethodId) (x0 : Int32) (x1 : Int32) (x2 : Int32) : entryFrame m #[(.int x0), (.int x1), (.int x2)] 3 = mkF m 0 #[.val (.int x0), .val (.int x1), .val (.int x2)] [] := by first | (simp [entryFrame, mkF, argsToLocals, Value.category, maxLocals]; done) | rfl
def Q6n2 (Z : State) (cp : Nat) (h0 : Heap) (n0 : Nat) (v : Option Value) (h : Heap) (L : List Loc) : Prop := v = none ∧ Fr n0 L ∧ h = h0
set_option maxRecDepth 65536 in
set_option maxHeartbeats 40000000 in
theorem rm6n2 (l : Launch) (Z : State) (a0 : Array Value) (hw : ∀ d ∈ tables_1, d.before a0 Z = true) (ws : List Jvm.Cond) (cp : Nat) (h0 : Heap) (n0 : Nat) (Z0 : n0 ≤ h0.size) (hcp : (Int32.ofNat cp).toInt = (cp : Int)) (hn : 2 ≤ cp) :
    MetFree l (⟨"java/util/Arrays", "rangeCheck", "(III)V"⟩ : MethodName) (head1 (Jvm.Cond.code (⟨"java/util/Arrays", "rangeCheck", "(III)V"⟩ : MethodName) jdk_65_method_30_code 3 none :: ws) ({ frames := 0, cells := 0, slots := 0, locals := 0 } : Room)) (fun arr' U => arr' = #[(.int (Int32.ofNat cp)), (.int (0 : Int32)), (.int (2 : Int32))] ∧ Z.Warmed39 U.vm ∧ U.heap = h0) (fun _ _ _ _ _ => True) (fun _ U o U' => ∃ v L, o = .returned v ∧ (Q6n2 Z cp h0 n0) v U'.heap L ∧ FrameEnd U o U' L ({ frames := 0, cells := 0, slots := 0, locals := 0 } : Room).cells ({ frames := 0, cells := 0, slots := 0, locals := 0 } : Room).slots) := by
  refine MetFree.of_bodySF pn_6 hisR ?_
  intro p e s m args below meth c s₁ Bd hml0 hP hK
  obtain ⟨rfl, hZ, hh⟩ := hP
  have hx := Bd.exec
  have hby := Bd.bytes
  have hlk : meth.locks = false := BodyLoose.notSynchronized Bd
  have hml : c.maxLocals = 3 := hml0
  have hown : s.vm.findClass "java/util/Arrays" = some m.cls := findClass_of_methodNamed Bd.named
  have hnm := (name_of_methodNamed Bd.named Bd.method).1
  have X0 : Stand p l e ({ frames := 0, cells := 0, slots := 0, locals := 0 } : Room) s m #[(.int (Int32.ofNat cp)), (.int (0 : Int32)), (.int (2 : Int32))] below meth c s₁ [] 0 0 := Stand.of_body Bd
  have e0 : s₁.heap = h0 := by rw [← hh, Bd.state]; rfl
  have N := Fr.nil n0
  have Zs := Z0
  change OwnGo p.tables e below (OwnEnd s (Q6n2 Z cp h0 n0) ({ frames := 0, cells := 0, slots := 0, locals := 0 } : Room).cells ({ frames := 0, cells := 0, slots := 0, locals := 0 } : Room).slots) _
  refine OwnGo.fwd (fun tq' kq' => castTop (ef_6n2 m (Int32.ofNat cp) (0 : Int32) (2 : Int32)) kq') ?_
  show OwnGo _ _ _ _ (s₁.setTop (mkF m 0 #[.val (.int (Int32.ofNat cp)), .val (.int (0 : Int32)), .val (.int (2 : Int32))] []))
  refine OwnGo.fwd (fun tq' kq' => XS.iloadN X0.here hx rfl (hb hby d6_0) rfl kq') ?_
  show OwnGo _ _ _ _ (s₁.setTop (mkF m 1 #[.val (.int (Int32.ofNat cp)), .val (.int (0 : Int32)), .val (.int (2 : Int32))] [(.int (0 : Int32))]))
  refine OwnGo.fwd (fun tq' kq' => XS.iloadN X0.here hx rfl (hb hby d6_1) rfl kq') ?_
  show OwnGo _ _ _ _ (s₁.setTop (mkF m 2 #[.val (.int (Int32.ofNat cp)), .val (.int (0 : Int32)), .val (.int (2 : Int32))] [(.int (2 : Int32)), (.int (0 : Int32))]))
  have hc2_1 : ¬ ((2 : Int) < (0 : Int)) := by decide
  refine OwnGo.fwd (fun tq' kq' => XS.icmpYes X0.here hx rfl (pc0 := 2) (pc' := 46) rfl (hb hby d6_2) rfl (own_bnlt (by decide) (by decide) hc2_1).2.2.2 (by decide) (by decide) kq') ?_
  show OwnGo _ _ _ _ (s₁.setTop (mkF m 46 #[.val (.int (Int32.ofNat cp)), .val (.int (0 : Int32)), .val (.int (2 : Int32))] []))
  refine OwnGo.fwd (fun tq' kq' => XS.iloadN X0.here hx rfl (hb hby d6_46) rfl kq') ?_
  show OwnGo _ _ _ _ (s₁.setTop (mkF m 47 #[.val (.int (Int32.ofNat cp)), .val (.int (0 : Int32)), .val (.int (2 : Int32))] [(.int (0 : Int32))]))
  have hc47_2 : ¬ ((0 : Int) < (0 : Int)) := by decide
  refine OwnGo.fwd (fun tq' kq' => XS.ifYes X0.here hx rfl (pc0 := 47) (pc' := 59) rfl (hb hby d6_47) rfl ((if0 _ _).trans (own_bnlt (by decide) (by decide) hc47_2).2.1) (by decide) (by decide) kq') ?_
  show OwnGo _ _ _ _ (s₁.setTop (mkF m 59 #[.val (.int (Int32.ofNat cp)), .val (.int (0 : Int32)), .val (.int (2 : Int32))] []))
  refine OwnGo.fwd (fun tq' kq' => XS.iloadN X0.here hx rfl (hb hby d6_59) rfl kq') ?_
  show OwnGo _ _ _ _ (s₁.setTop (mkF m 60 #[.val (.int (Int32.ofNat cp)), .val (.int (0 : Int32)), .val (.int (2 : Int32))] [(.int (2 : Int32))]))
  refine OwnGo.fwd (fun tq' kq' => XS.iloadN X0.here hx rfl (hb hby d6_60) rfl kq') ?_
  show OwnGo _ _ _ _ (s₁.setTop (mkF m 61 #[.val (.int (Int32.ofNat cp)), .val (.int (0 : Int32)), .val (.int (2 : Int32))] [(.int (Int32.ofNat cp)), (.int (2 : Int32))]))
  have hc61_3 : ¬ ((cp : Int) < 2) := by omega
  refine OwnGo.fwd (fun tq' kq' => XS.icmpYes X0.here hx rfl (pc0 := 61) (pc' := 73) rfl (hb hby d6_61) rfl (own_bnlt hcp (by decide) hc61_3).2.2.2 (by decide) (by decide) kq') ?_
  show OwnGo _ _ _ _ (s₁.setTop (mkF m 73 #[.val (.int (Int32.ofNat cp)), .val (.int (0 : Int32)), .val (.int (2 : Int32))] []))
  exact own_retV X0 hlk hx Bd.returns (hb hby d6_73) (by decide) (by decide) e0 ⟨rfl, N, rfl⟩
theorem ef_6n3 (m : MethodId) (x0 : Int32) (x1 : Int32) (x2 : Int32) : entryFrame m #[(.int x0), (.int x1), (.int x2)] 3 = mkF m 0 #[.val (.int x0), .val (.int x1), .val (.int x2)] [] := by first | (simp [entryFrame, mkF, argsToLocals, Value.category, maxLocals]; done) | rfl
def Q6n3 (Z : State) (cp : Nat) (h0 : Heap) (n0 : Nat) (v : Option Value) (h : Heap) (L : List Loc) : Prop := v = none ∧ Fr n0 L ∧ h = h0
set_option maxRecDepth 65536 in
set_option maxHeartbeats 40000000 in
theorem rm6n3 (l : Launch) (Z : State) (a0 : Array Value) (hw : ∀ d ∈ tables_1, d.before a0 Z = true) (ws : List Jvm.Cond) (cp : Nat) (h0 : Heap) (n0 : Nat) (Z0 : n0 ≤ h0.size) (hcp : (Int32.ofNat cp).toInt = (cp : Int)) (hn : 3 ≤ cp) :
    MetFree l (⟨"java/util/Arrays", "rangeCheck", "(III)V"⟩ : MethodName) (head1 (Jvm.Cond.code (⟨"java/util/Arrays", "rangeCheck", "(III)V"⟩ : MethodName) jdk_65_method_30_code 3 none :: ws) ({ frames := 0, cells := 0, slots := 0, locals := 0 } : Room)) (fun arr' U => arr' = #[(.int (Int32.ofNat cp)), (.int (0 : Int32)), (.int (3 : Int32))] ∧ Z.Warmed39 U.vm ∧ U.heap = h0) (fun _ _ _ _ _ => True) (fun _ U o U' => ∃ v L, o = .returned v ∧ (Q6n3 Z cp h0 n0) v U'.heap L ∧ FrameEnd U o U' L ({ frames := 0, cells := 0, slots := 0, locals := 0 } : Room).cells ({ frames := 0, cells := 0, slots := 0, locals := 0 } : Room).slots) := by
  refine MetFree.of_bodySF pn_6 hisR ?_
  intro p e s m args below meth c s₁ Bd hml0 hP hK
  obtain ⟨rfl, hZ, hh⟩ := hP
  have hx := Bd.exec
  have hby := Bd.bytes
  have hlk : meth.locks = false := BodyLoose.notSynchronized Bd
  have hml : c.maxLocals = 3 := hml0
  have hown : s.vm.findClass "java/util/Arrays" = some m.cls := findClass_of_methodNamed Bd.named
  have hnm := (name_of_methodNamed Bd.named Bd.method).1
  have X0 : Stand p l e ({ frames := 0, cells := 0, slots := 0, locals := 0 } : Room) s m #[(.int (Int32.ofNat cp)), (.int (0 : Int32)), (.int (3 : Int32))] below meth c s₁ [] 0 0 := Stand.of_body Bd
  have e0 : s₁.heap = h0 := by rw [← hh, Bd.state]; rfl
  have N := Fr.nil n0
  have Zs := Z0
  change OwnGo p.tables e below (OwnEnd s (Q6n3 Z cp h0 n0) ({ frames := 0, cells := 0, slots := 0, locals := 0 } : Room).cells ({ frames := 0, cells := 0, slots := 0, locals := 0 } : Room).slots) _
  refine OwnGo.fwd (fun tq' kq' => castTop (ef_6n3 m (Int32.ofNat cp) (0 : Int32) (3 : Int32)) kq') ?_
  show OwnGo _ _ _ _ (s₁.setTop (mkF m 0 #[.val (.int (Int32.ofNat cp)), .val (.int (0 : Int32)), .val (.int (3 : Int32))] []))
  refine OwnGo.fwd (fun tq' kq' => XS.iloadN X0.here hx rfl (hb hby d6_0) rfl kq') ?_
  show OwnGo _ _ _ _ (s₁.setTop (mkF m 1 #[.val (.int (Int32.ofNat cp)), .val (.int (0 : Int32)), .val (.int (3 : Int32))] [(.int (0 : Int32))]))
  refine OwnGo.fwd (fun tq' kq' => XS.iloadN X0.here hx rfl (hb hby d6_1) rfl kq') ?_
  show OwnGo _ _ _ _ (s₁.setTop (mkF m 2 #[.val (.int (Int32.ofNat cp)), .val (.int (0 : Int32)), .val (.int (3 : Int32))] [(.int (3 : Int32)), (.int (0 : Int32))]))
  have hc2_1 : ¬ ((3 : Int) < (0 : Int)) := by decide
  refine OwnGo.fwd (fun tq' kq' => XS.icmpYes X0.here hx rfl (pc0 := 2) (pc' := 46) rfl (hb hby d6_2) rfl (own_bnlt (by decide) (by decide) hc2_1).2.2.2 (by decide) (by decide) kq') ?_
  show OwnGo _ _ _ _ (s₁.setTop (mkF m 46 #[.val (.int (Int32.ofNat cp)), .val (.int (0 : Int32)), .val (.int (3 : Int32))] []))
  refine OwnGo.fwd (fun tq' kq' => XS.iloadN X0.here hx rfl (hb hby d6_46) rfl kq') ?_
  show OwnGo _ _ _ _ (s₁.setTop (mkF m 47 #[.val (.int (Int32.ofNat cp)), .val (.int (0 : Int32)), .val (.int (3 : Int32))] [(.int (0 : Int32))]))
  have hc47_2 : ¬ ((0 : Int) < (0 : Int)) := by decide
  refine OwnGo.fwd (fun tq' kq' => XS.ifYes X0.here hx rfl (pc0 := 47) (pc' := 59) rfl (hb hby d6_47) rfl ((if0 _ _).trans (own_bnlt (by decide) (by decide) hc47_2).2.1) (by decide) (by decide) kq') ?_
  show OwnGo _ _ _ _ (s₁.setTop (mkF m 59 #[.val (.int (Int32.ofNat cp)), .val (.int (0 : Int32)), .val (.int (3 : Int32))] []))
  refine OwnGo.fwd (fun tq' kq' => XS.iloadN X0.here hx rfl (hb hby d6_59) rfl kq') ?_
  show OwnGo _ _ _ _ (s₁.setTop (mkF m 60 #[.val (.int (Int32.ofNat cp)), .val (.int (0 : Int32)), .val (.int (3 : Int32))] [(.int (3 : Int32))]))
  refine OwnGo.fwd (fun tq' kq' => XS.iloadN X0.here hx rfl (hb hby d6_60) rfl kq') ?_
  show OwnGo _ _ _ _ (s₁.setTop (mkF m 61 #[.val (.int (Int32.ofNat cp)), .val (.int (0 : Int32)), .val (.int (3 : Int32))] [(.int (Int32.ofNat cp)), (.int (3 : Int32))]))
  have hc61_3 : ¬ ((cp : Int) < 3) := by omega
  refine OwnGo.fwd (fun tq' kq' => XS.icmpYes X0.here hx rfl (pc0 := 61) (pc' := 73) rfl (hb hby d6_61) rfl (own_bnlt hcp (by decide) hc61_3).2.2.2 (by decide) (by decide) kq') ?_
  show OwnGo _ _ _ _ (s₁.setTop (mkF m 73 #[.val (.int (Int32.ofNat cp)), .val (.int (0 : Int32)), .val (.int (3 : Int32))] []))
  exact own_retV X0 hlk hx Bd.returns (hb hby d6_73) (by decide) (by decide) e0 ⟨rfl, N, rfl⟩
theorem d7_0 : decode jdk_65_method_59_code 0 = .ok (.iload_n 1, 1) := by decide +kernel
theorem d7_1 : decode jdk_65_method_59_code 1 = .ok (.istore 4, 2) := by decide +kernel
theorem d7_3 : decode jdk_65_method_59_code 3 = .ok (.iload_n 2, 1) := by decide +kernel
theorem d7_4 : decode jdk_65_method_59_code 4 = .ok (.iconst 1, 1) := by decide +kernel
theorem d7_5 : decode jdk_65_method_59_code 5 = .ok (.isub, 1) := by decide +kernel
theorem d7_6 : decode jdk_65_method_59_code 6 = .ok (.istore 5, 2) := by decide +kernel
theorem d7_8 : decode jdk_65_method_59_code 8 = .ok (.iload 4, 2) := by decide +kernel
theorem d7_10 : decode jdk_65_method_59_code 10 = .ok (.iload 5, 2) := by decide +kernel
theorem d7_12 : decode jdk_65_method_59_code 12 = .ok (.if_icmp .gt 54, 3) := by decide +kernel
theorem d7_15 : decode jdk_65_method_59_code 15 = .ok (.iload 4, 2) := by decide +kernel
theorem d7_17 : decode jdk_65_method_59_code 17 = .ok (.iload 5, 2) := by decide +kernel
theorem d7_19 : decode jdk_65_method_59_code 19 = .ok (.iadd, 1) := by decide +kernel
theorem d7_20 : decode jdk_65_method_59_code 20 = .ok (.iconst 1, 1) := by decide +kernel
theorem d7_21 : decode jdk_65_method_59_code 21 = .ok (.iushr, 1) := by decide +kernel
theorem d7_22 : decode jdk_65_method_59_code 22 = .ok (.istore 6, 2) := by decide +kernel
theorem d7_24 : decode jdk_65_method_59_code 24 = .ok (.aload_n 0, 1) := by decide +kernel
theorem d7_25 : decode jdk_65_method_59_code 25 = .ok (.iload 6, 2) := by decide +kernel
theorem d7_27 : decode jdk_65_method_59_code 27 = .ok (.iaload, 1) := by decide +kernel
theorem d7_28 : decode jdk_65_method_59_code 28 = .ok (.istore 7, 2) := by decide +kernel
theorem d7_30 : decode jdk_65_method_59_code 30 = .ok (.iload 7, 2) := by decide +kernel
theorem d7_32 : decode jdk_65_method_59_code 32 = .ok (.iload_n 3, 1) := by decide +kernel
theorem d7_33 : decode jdk_65_method_59_code 33 = .ok (.if_icmp .ge 12, 3) := by decide +kernel
theorem d7_36 : decode jdk_65_method_59_code 36 = .ok (.iload 6, 2) := by decide +kernel
theorem d7_38 : decode jdk_65_method_59_code 38 = .ok (.iconst 1, 1) := by decide +kernel
theorem d7_39 : decode jdk_65_method_59_code 39 = .ok (.iadd, 1) := by decide +kernel
theorem d7_40 : decode jdk_65_method_59_code 40 = .ok (.istore 4, 2) := by decide +kernel
theorem d7_42 : decode jdk_65_method_59_code 42 = .ok (.goto 21, 3) := by decide +kernel
theorem d7_45 : decode jdk_65_method_59_code 45 = .ok (.iload 7, 2) := by decide +kernel
theorem d7_47 : decode jdk_65_method_59_code 47 = .ok (.iload_n 3, 1) := by decide +kernel
theorem d7_48 : decode jdk_65_method_59_code 48 = .ok (.if_icmp .le 12, 3) := by decide +kernel
theorem d7_51 : decode jdk_65_method_59_code 51 = .ok (.iload 6, 2) := by decide +kernel
theorem d7_53 : decode jdk_65_method_59_code 53 = .ok (.iconst 1, 1) := by decide +kernel
theorem d7_54 : decode jdk_65_method_59_code 54 = .ok (.isub, 1) := by decide +kernel
theorem d7_55 : decode jdk_65_method_59_code 55 = .ok (.istore 5, 2) := by decide +kernel
theorem d7_57 : decode jdk_65_method_59_code 57 = .ok (.goto 6, 3) := by decide +kernel
theorem d7_60 : decode jdk_65_method_59_code 60 = .ok (.iload 6, 2) := by decide +kernel
theorem d7_62 : decode jdk_65_method_59_code 62 = .ok (.ireturn, 1) := by decide +kernel
theorem d7_63 : decode jdk_65_method_59_code 63 = .ok (.goto (-55), 3) := by decide +kernel
theorem d7_66 : decode jdk_65_method_59_code 66 = .ok (.iload 4, 2) := by decide +kernel
theorem d7_68 : decode jdk_65_method_59_code 68 = .ok (.iconst 1, 1) := by decide +kernel
theorem d7_69 : decode jdk_65_method_59_code 69 = .ok (.iadd, 1) := by decide +kernel
theorem d7_70 : decode jdk_65_method_59_code 70 = .ok (.ineg, 1) := by decide +kernel
theorem d7_71 : decode jdk_65_method_59_code 71 = .ok (.ireturn, 1) := by decide +kernel
theorem pn_7 : plainFor (⟨"java/util/Arrays", "binarySearch0", "([IIII)I"⟩ : MethodName) = true := plainFor_of_name (by first | (simp [plainName, overriddenIn]; done) | decide +kernel)
theorem ef_7n0 (m : MethodId) (x0 : Addr) (x1 : Int32) (x2 : Int32) (x3 : Int32) : entryFrame m #[(.ref x0), (.int x1), (.int x2), (.int x3)] 8 = mkF m 0 #[.val (.ref x0), .val (.int x1), .val (.int x2), .val (.int x3), .unset, .unset, .unset, .unset] [] := by first | (simp [entryFrame, mkF, argsToLocals, Value.category, maxLocals]; done) | rfl
def Q7n0 (Z : State) (d : Addr) (cp : Nat) (f : Nat → Int32) (x : Int32) (h0 : Heap) (n0 : Nat) (v : Option Value) (h : Heap) (L : List Loc) : Prop := Fr n0 L ∧ h = h0 ∧ ∃ z, v = some (.int z) ∧ own_bs 0 f x z
set_option maxRecDepth 65536 in
set_option maxHeartbeats 40000000 in
theorem rm7n0 (l : Launch) (Z : State) (a0 : Array Value) (hw : ∀ d ∈ tables_1, d.before a0 Z = true) (ws : List Jvm.Cond) (d : Addr) (cp : Nat) (f : Nat → Int32) (x : Int32) (h0 : Heap) (n0 : Nat) (Z0 : n0 ≤ h0.size) (V_d : OwnIA Z h0 d cp f) (hn : 0 ≤ cp) :
    MetFree l (⟨"java/util/Arrays", "binarySearch0", "([IIII)I"⟩ : MethodName) (head1 (Jvm.Cond.code (⟨"java/util/Arrays", "binarySearch0", "([IIII)I"⟩ : MethodName) jdk_65_method_59_code 8 (some .int) :: ws) ({ frames := 0, cells := 0, slots := 0, locals := 0 } : Room)) (fun arr' U => arr' = #[(.ref d), (.int (0 : Int32)), (.int (0 : Int32)), (.int x)] ∧ Z.Warmed39 U.vm ∧ U.heap = h0) (fun _ _ _ _ _ => True) (fun _ U o U' => ∃ v L, o = .returned v ∧ (Q7n0 Z d cp f x h0 n0) v U'.heap L ∧ FrameEnd U o U' L ({ frames := 0, cells := 0, slots := 0, locals := 0 } : Room).cells ({ frames := 0, cells := 0, slots := 0, locals := 0 } : Room).slots) := by
  refine MetFree.of_bodySF pn_7 hisR ?_
  intro p e s m args below meth c s₁ Bd hml0 hP hK
  obtain ⟨rfl, hZ, hh⟩ := hP
  have hx := Bd.exec
  have hby := Bd.bytes
  have hlk : meth.locks = false := BodyLoose.notSynchronized Bd
  have hml : c.maxLocals = 8 := hml0
  have hown : s.vm.findClass "java/util/Arrays" = some m.cls := findClass_of_methodNamed Bd.named
  have hnm := (name_of_methodNamed Bd.named Bd.method).1
  have X0 : Stand p l e ({ frames := 0, cells := 0, slots := 0, locals := 0 } : Room) s m #[(.ref d), (.int (0 : Int32)), (.int (0 : Int32)), (.int x)] below meth c s₁ [] 0 0 := Stand.of_body Bd
  have e0 : s₁.heap = h0 := by rw [← hh, Bd.state]; rfl
  have N := Fr.nil n0
  have Zs := Z0
  change OwnGo p.tables e below (OwnEnd s (Q7n0 Z d cp f x h0 n0) ({ frames := 0, cells := 0, slots := 0, locals := 0 } : Room).cells ({ frames := 0, cells := 0, slots := 0, locals := 0 } : Room).slots) _
  refine OwnGo.fwd (fun tq' kq' => castTop (ef_7n0 m d (0 : Int32) (0 : Int32) x) kq') ?_
  show OwnGo _ _ _ _ (s₁.setTop (mkF m 0 #[.val (.ref d), .val (.int (0 : Int32)), .val (.int (0 : Int32)), .val (.int x), .unset, .unset, .unset, .unset] []))
  refine OwnGo.fwd (fun tq' kq' => XS.iloadN X0.here hx rfl (hb hby d7_0) rfl kq') ?_
  show OwnGo _ _ _ _ (s₁.setTop (mkF m 1 #[.val (.ref d), .val (.int (0 : Int32)), .val (.int (0 : Int32)), .val (.int x), .unset, .unset, .unset, .unset] [(.int (0 : Int32))]))
  refine OwnGo.fwd (fun tq' kq' => XS.istore X0.here hx rfl (hb hby d7_1) rfl (l' := #[.val (.ref d), .val (.int (0 : Int32)), .val (.int (0 : Int32)), .val (.int x), .val (.int (0 : Int32)), .unset, .unset, .unset]) rfl kq') ?_
  show OwnGo _ _ _ _ (s₁.setTop (mkF m 3 #[.val (.ref d), .val (.int (0 : Int32)), .val (.int (0 : Int32)), .val (.int x), .val (.int (0 : Int32)), .unset, .unset, .unset] []))
  refine OwnGo.fwd (fun tq' kq' => XS.iloadN X0.here hx rfl (hb hby d7_3) rfl kq') ?_
  show OwnGo _ _ _ _ (s₁.setTop (mkF m 4 #[.val (.ref d), .val (.int (0 : Int32)), .val (.int (0 : Int32)), .val (.int x), .val (.int (0 : Int32)), .unset, .unset, .unset] [(.int (0 : Int32))]))
  refine OwnGo.fwd (fun tq' kq' => XS.iconst X0.here hx rfl (hb hby d7_4) kq') ?_
  show OwnGo _ _ _ _ (s₁.setTop (mkF m 5 #[.val (.ref d), .val (.int (0 : Int32)), .val (.int (0 : Int32)), .val (.int x), .val (.int (0 : Int32)), .unset, .unset, .unset] [(.int (1 : Int32)), (.int (0 : Int32))]))
  refine OwnGo.fwd (fun tq' kq' => XS.isub X0.here hx rfl (hb hby d7_5) rfl kq') ?_
  show OwnGo _ _ _ _ (s₁.setTop (mkF m 6 #[.val (.ref d), .val (.int (0 : Int32)), .val (.int (0 : Int32)), .val (.int x), .val (.int (0 : Int32)), .unset, .unset, .unset] [(.int (-1 : Int32))]))
  refine OwnGo.fwd (fun tq' kq' => XS.istore X0.here hx rfl (hb hby d7_6) rfl (l' := #[.val (.ref d), .val (.int (0 : Int32)), .val (.int (0 : Int32)), .val (.int x), .val (.int (0 : Int32)), .val (.int (-1 : Int32)), .unset, .unset]) rfl kq') ?_
  show OwnGo _ _ _ _ (s₁.setTop (mkF m 8 #[.val (.ref d), .val (.int (0 : Int32)), .val (.int (0 : Int32)), .val (.int x), .val (.int (0 : Int32)), .val (.int (-1 : Int32)), .unset, .unset] []))
  refine OwnGo.fwd (fun tq' kq' => XS.iload X0.here hx rfl (hb hby d7_8) rfl kq') ?_
  show OwnGo _ _ _ _ (s₁.setTop (mkF m 10 #[.val (.ref d), .val (.int (0 : Int32)), .val (.int (0 : Int32)), .val (.int x), .val (.int (0 : Int32)), .val (.int (-1 : Int32)), .unset, .unset] [(.int (0 : Int32))]))
  refine OwnGo.fwd (fun tq' kq' => XS.iload X0.here hx rfl (hb hby d7_10) rfl kq') ?_
  show OwnGo _ _ _ _ (s₁.setTop (mkF m 12 #[.val (.ref d), .val (.int (0 : Int32)), .val (.int (0 : Int32)), .val (.int x), .val (.int (0 : Int32)), .val (.int (-1 : Int32)), .unset, .unset] [(.int (-1 : Int32)), (.int (0 : Int32))]))
  have hc12_1 : (-1 : Int) < (0 : Int) := by decide
  refine OwnGo.fwd (fun tq' kq' => XS.icmpYes X0.here hx rfl (pc0 := 12) (pc' := 66) rfl (hb hby d7_12) rfl (own_blt (by decide) (by decide) hc12_1).2.2.1 (by decide) (by decide) kq') ?_
  show OwnGo _ _ _ _ (s₁.setTop (mkF m 66 #[.val (.ref d), .val (.int (0 : Int32)), .val (.int (0 : Int32)), .val (.int x), .val (.int (0 : Int32)), .val (.int (-1 : Int32)), .unset, .unset] []))
  refine OwnGo.fwd (fun tq' kq' => XS.iload X0.here hx rfl (hb hby d7_66) rfl kq') ?_
  show OwnGo _ _ _ _ (s₁.setTop (mkF m 68 #[.val (.ref d), .val (.int (0 : Int32)), .val (.int (0 : Int32)), .val (.int x), .val (.int (0 : Int32)), .val (.int (-1 : Int32)), .unset, .unset] [(.int (0 : Int32))]))
  refine OwnGo.fwd (fun tq' kq' => XS.iconst X0.here hx rfl (hb hby d7_68) kq') ?_
  show OwnGo _ _ _ _ (s₁.setTop (mkF m 69 #[.val (.ref d), .val (.int (0 : Int32)), .val (.int (0 : Int32)), .val (.int x), .val (.int (0 : Int32)), .val (.int (-1 : Int32)), .unset, .unset] [(.int (1 : Int32)), (.int (0 : Int32))]))
  refine OwnGo.fwd (fun tq' kq' => XS.iadd X0.here hx rfl (hb hby d7_69) rfl kq') ?_
  show OwnGo _ _ _ _ (s₁.setTop (mkF m 70 #[.val (.ref d), .val (.int (0 : Int32)), .val (.int (0 : Int32)), .val (.int x), .val (.int (0 : Int32)), .val (.int (-1 : Int32)), .unset, .unset] [(.int (1 : Int32))]))
  refine OwnGo.fwd (fun tq' kq' => XS.ineg X0.here hx rfl (hb hby d7_70) rfl kq') ?_
  show OwnGo _ _ _ _ (s₁.setTop (mkF m 71 #[.val (.ref d), .val (.int (0 : Int32)), .val (.int (0 : Int32)), .val (.int x), .val (.int (0 : Int32)), .val (.int (-1 : Int32)), .unset, .unset] [(.int (-1 : Int32))]))
  exact own_retI X0 hlk hx Bd.returns (hb hby d7_71) (by decide) (by decide) e0 ⟨N, rfl, _, rfl, Or.inr ⟨by decide, fun i hi => absurd hi (Nat.not_lt_zero _)⟩⟩
theorem d5_0 : decode jdk_65_method_58_code 0 = .ok (.aload_n 0, 1) := by decide +kernel
theorem d5_1 : decode jdk_65_method_58_code 1 = .ok (.arraylength, 1) := by decide +kernel
theorem d5_2 : decode jdk_65_method_58_code 2 = .ok (.iload_n 1, 1) := by decide +kernel
theorem d5_3 : decode jdk_65_method_58_code 3 = .ok (.iload_n 2, 1) := by decide +kernel
theorem d5_4 : decode jdk_65_method_58_code 4 = .ok (.invokestatic 13, 3) := by decide +kernel
theorem d5_7 : decode jdk_65_method_58_code 7 = .ok (.aload_n 0, 1) := by decide +kernel
theorem d5_8 : decode jdk_65_method_58_code 8 = .ok (.iload_n 1, 1) := by decide +kernel
theorem d5_9 : decode jdk_65_method_58_code 9 = .ok (.iload_n 2, 1) := by decide +kernel
theorem d5_10 : decode jdk_65_method_58_code 10 = .ok (.iload_n 3, 1) := by decide +kernel
theorem d5_11 : decode jdk_65_method_58_code 11 = .ok (.invokestatic 209, 3) := by decide +kernel
theorem d5_14 : decode jdk_65_method_58_code 14 = .ok (.ireturn, 1) := by decide +kernel
theorem pn_5 : plainFor (⟨"java/util/Arrays", "binarySearch", "([IIII)I"⟩ : MethodName) = true := plainFor_of_name (by first | (simp [plainName, overriddenIn]; done) | decide +kernel)
theorem ef_5n0 (m : MethodId) (x0 : Addr) (x1 : Int32) (x2 : Int32) (x3 : Int32) : entryFrame m #[(.ref x0), (.int x1), (.int x2), (.int x3)] 4 = mkF m 0 #[.val (.ref x0), .val (.int x1), .val (.int x2), .val (.int x3)] [] := by first | (simp [entryFrame, mkF, argsToLocals, Value.category, maxLocals]; done) | rfl
def Q5n0 (Z : State) (d : Addr) (cp : Nat) (f : Nat → Int32) (x : Int32) (h0 : Heap) (n0 : Nat) (v : Option Value) (h : Heap) (L : List Loc) : Prop := Fr n0 L ∧ h = h0 ∧ ∃ z, v = some (.int z) ∧ own_bs 0 f x z
set_option maxRecDepth 65536 in
set_option maxHeartbeats 40000000 in
theorem rm5n0 (l : Launch) (Z : State) (a0 : Array Value) (hw : ∀ d ∈ tables_1, d.before a0 Z = true) (ws : List Jvm.Cond) (d : Addr) (cp : Nat) (f : Nat → Int32) (x : Int32) (h0 : Heap) (n0 : Nat) (Z0 : n0 ≤ h0.size) (V_d : OwnIA Z h0 d cp f) (hn : 0 ≤ cp) :
    MetFree l (⟨"java/util/Arrays", "binarySearch", "([IIII)I"⟩ : MethodName) (head1 (Jvm.Cond.code (⟨"java/util/Arrays", "binarySearch", "([IIII)I"⟩ : MethodName) jdk_65_method_58_code 4 (some .int) :: ws) ({ frames := 1, cells := 0, slots := 0, locals := 20 } : Room)) (fun arr' U => arr' = #[(.ref d), (.int (0 : Int32)), (.int (0 : Int32)), (.int x)] ∧ Z.Warmed39 U.vm ∧ U.heap = h0) (fun _ _ _ _ _ => True) (fun _ U o U' => ∃ v L, o = .returned v ∧ (Q5n0 Z d cp f x h0 n0) v U'.heap L ∧ FrameEnd U o U' L ({ frames := 1, cells := 0, slots := 0, locals := 20 } : Room).cells ({ frames := 1, cells := 0, slots := 0, locals := 20 } : Room).slots) := by
  refine MetFree.of_bodySF pn_5 hisR ?_
  intro p e s m args below meth c s₁ Bd hml0 hP hK
  obtain ⟨rfl, hZ, hh⟩ := hP
  have hx := Bd.exec
  have hby := Bd.bytes
  have hlk : meth.locks = false := BodyLoose.notSynchronized Bd
  have hml : c.maxLocals = 4 := hml0
  have hown : s.vm.findClass "java/util/Arrays" = some m.cls := findClass_of_methodNamed Bd.named
  have hnm := (name_of_methodNamed Bd.named Bd.method).1
  have X0 : Stand p l e ({ frames := 1, cells := 0, slots := 0, locals := 20 } : Room) s m #[(.ref d), (.int (0 : Int32)), (.int (0 : Int32)), (.int x)] below meth c s₁ [] 0 0 := Stand.of_body Bd
  have e0 : s₁.heap = h0 := by rw [← hh, Bd.state]; rfl
  have N := Fr.nil n0
  have Zs := Z0
  change OwnGo p.tables e below (OwnEnd s (Q5n0 Z d cp f x h0 n0) ({ frames := 1, cells := 0, slots := 0, locals := 20 } : Room).cells ({ frames := 1, cells := 0, slots := 0, locals := 20 } : Room).slots) _
  refine OwnGo.fwd (fun tq' kq' => castTop (ef_5n0 m d (0 : Int32) (0 : Int32) x) kq') ?_
  show OwnGo _ _ _ _ (s₁.setTop (mkF m 0 #[.val (.ref d), .val (.int (0 : Int32)), .val (.int (0 : Int32)), .val (.int x)] []))
  have hcp : (Int32.ofNat cp).toInt = (cp : Int) := own_ofNat (by obtain ⟨_, _, _, r, _⟩ := V_d; exact r)
  refine OwnGo.fwd (fun tq' kq' => XS.aloadN X0.here hx rfl (hb hby d5_0) rfl rfl kq') ?_
  show OwnGo _ _ _ _ (s₁.setTop (mkF m 1 #[.val (.ref d), .val (.int (0 : Int32)), .val (.int (0 : Int32)), .val (.int x)] [(.ref d)]))
  refine OwnGo.fwd (fun tq' kq' => own_len X0 hx hZ e0 V_d (g := (mkF m 1 #[.val (.ref d), .val (.int (0 : Int32)), .val (.int (0 : Int32)), .val (.int x)] [(.ref d)])) rfl rfl (hb hby d5_1) tq' kq') ?_
  show OwnGo _ _ _ _ (s₁.setTop (mkF m 2 #[.val (.ref d), .val (.int (0 : Int32)), .val (.int (0 : Int32)), .val (.int x)] [(.int (Int32.ofNat cp))]))
  refine OwnGo.fwd (fun tq' kq' => XS.iloadN X0.here hx rfl (hb hby d5_2) rfl kq') ?_
  show OwnGo _ _ _ _ (s₁.setTop (mkF m 3 #[.val (.ref d), .val (.int (0 : Int32)), .val (.int (0 : Int32)), .val (.int x)] [(.int (0 : Int32)), (.int (Int32.ofNat cp))]))
  refine OwnGo.fwd (fun tq' kq' => XS.iloadN X0.here hx rfl (hb hby d5_3) rfl kq') ?_
  show OwnGo _ _ _ _ (s₁.setTop (mkF m 4 #[.val (.ref d), .val (.int (0 : Int32)), .val (.int (0 : Int32)), .val (.int x)] [(.int (0 : Int32)), (.int (0 : Int32)), (.int (Int32.ofNat cp))]))
  obtain ⟨_, _, ⟨T1, L1, k1, n1⟩, -, X1, ⟨Lc1, hQ1, l1, y1, z1⟩, st1⟩ := Jvm.LawKit.callS X0 hx (y := (⟨"java/util/Arrays", "rangeCheck", "(III)V"⟩ : MethodName)) hown (mvT hZ (hw _ (List.mem_of_getElem? (i := 30) rfl))) (mvT hZ (hw _ (List.mem_of_getElem? (i := 31) rfl))) (mvT hZ (hw _ (List.mem_of_getElem? (i := 28) rfl))) (mvT hZ (hw _ (List.mem_of_getElem? (i := 32) rfl))) (by decide) (backOf (W := 0) (rm6n0 l Z a0 hw [] cp h0 n0 Zs hcp hn) hZ (hw _ (List.mem_of_getElem? (i := 32) rfl)) (hw _ (List.mem_of_getElem? (i := 28) rfl)) (by decide) (by decide)) (g := (mkF m 4 #[.val (.ref d), .val (.int (0 : Int32)), .val (.int (0 : Int32)), .val (.int x)] [(.int (0 : Int32)), (.int (0 : Int32)), (.int (Int32.ofNat cp))])) rfl (by rw [hml]; rfl) (argsL := [(.int (Int32.ofNat cp)), (.int (0 : Int32)), (.int (0 : Int32))]) (rest := []) (lenOf pd_5 rfl) rfl (by show 2 * 0 + _ ≤ _; exact Nat.le_of_eq rfl) (hb hby d5_4) (fun _ _ => ⟨rfl, e0, (by decide : 0 + 0 ≤ _), (by decide : 0 + 0 ≤ _)⟩)
  dsimp only [Pt.U, Pt.locs, Pt.cells, Pt.slots] at X1 l1 y1 z1 st1 hQ1
  subst l1 y1 z1
  obtain ⟨rfl, N1q, e1⟩ := hQ1
  have N := Fr.app N N1q
  refine OwnGo.fwd st1 ?_
  show OwnGo _ _ _ _ (T1.setTop (mkF m 7 #[.val (.ref d), .val (.int (0 : Int32)), .val (.int (0 : Int32)), .val (.int x)] []))
  refine OwnGo.fwd (fun tq' kq' => XS.aloadN X1.here hx rfl (hb hby d5_7) rfl rfl kq') ?_
  show OwnGo _ _ _ _ (T1.setTop (mkF m 8 #[.val (.ref d), .val (.int (0 : Int32)), .val (.int (0 : Int32)), .val (.int x)] [(.ref d)]))
  refine OwnGo.fwd (fun tq' kq' => XS.iloadN X1.here hx rfl (hb hby d5_8) rfl kq') ?_
  show OwnGo _ _ _ _ (T1.setTop (mkF m 9 #[.val (.ref d), .val (.int (0 : Int32)), .val (.int (0 : Int32)), .val (.int x)] [(.int (0 : Int32)), (.ref d)]))
  refine OwnGo.fwd (fun tq' kq' => XS.iloadN X1.here hx rfl (hb hby d5_9) rfl kq') ?_
  show OwnGo _ _ _ _ (T1.setTop (mkF m 10 #[.val (.ref d), .val (.int (0 : Int32)), .val (.int (0 : Int32)), .val (.int x)] [(.int (0 : Int32)), (.int (0 : Int32)), (.ref d)]))
  refine OwnGo.fwd (fun tq' kq' => XS.iloadN X1.here hx rfl (hb hby d5_10) rfl kq') ?_
  show OwnGo _ _ _ _ (T1.setTop (mkF m 11 #[.val (.ref d), .val (.int (0 : Int32)), .val (.int (0 : Int32)), .val (.int x)] [(.int x), (.int (0 : Int32)), (.int (0 : Int32)), (.ref d)]))
  obtain ⟨_, _, ⟨T2, L2, k2, n2⟩, -, X2, ⟨Lc2, hQ2, l2, y2, z2⟩, st2⟩ := Jvm.LawKit.callS X1 hx (y := (⟨"java/util/Arrays", "binarySearch0", "([IIII)I"⟩ : MethodName)) hown (mvT hZ (hw _ (List.mem_of_getElem? (i := 33) rfl))) (mvT hZ (hw _ (List.mem_of_getElem? (i := 34) rfl))) (mvT hZ (hw _ (List.mem_of_getElem? (i := 28) rfl))) (mvT hZ (hw _ (List.mem_of_getElem? (i := 35) rfl))) (by decide) (backOf (W := 0) (rm7n0 l Z a0 hw [] d cp f x h0 n0 Zs V_d hn) hZ (hw _ (List.mem_of_getElem? (i := 35) rfl)) (hw _ (List.mem_of_getElem? (i := 28) rfl)) (by decide) (by decide)) (g := (mkF m 11 #[.val (.ref d), .val (.int (0 : Int32)), .val (.int (0 : Int32)), .val (.int x)] [(.int x), (.int (0 : Int32)), (.int (0 : Int32)), (.ref d)])) rfl (by rw [hml]; rfl) (argsL := [(.ref d), (.int (0 : Int32)), (.int (0 : Int32)), (.int x)]) (rest := []) (lenOf pd_4 rfl) rfl (by show 2 * 0 + _ ≤ _; exact Nat.le_of_eq rfl) (hb hby d5_11) (fun _ _ => ⟨rfl, e1, (by decide : 0 + 0 ≤ _), (by decide : 0 + 0 ≤ _)⟩)
  dsimp only [Pt.U, Pt.locs, Pt.cells, Pt.slots] at X2 l2 y2 z2 st2 hQ2
  subst l2 y2 z2
  obtain ⟨N2q, e2, z2, rfl, hb2⟩ := hQ2
  have N := Fr.app N N2q
  refine OwnGo.fwd st2 ?_
  show OwnGo _ _ _ _ (T2.setTop (mkF m 14 #[.val (.ref d), .val (.int (0 : Int32)), .val (.int (0 : Int32)), .val (.int x)] [(.int z2)]))
  exact own_retI X2 hlk hx Bd.returns (hb hby d5_14) (by decide) (by decide) e2 ⟨N, rfl, _, rfl, hb2⟩
theorem d4_0 : decode prog_33_method_8_code 0 = .ok (.aload_n 0, 1) := by decide +kernel
theorem d4_1 : decode prog_33_method_8_code 1 = .ok (.getfield 18, 3) := by decide +kernel
theorem d4_4 : decode prog_33_method_8_code 4 = .ok (.iconst 0, 1) := by decide +kernel
theorem d4_5 : decode prog_33_method_8_code 5 = .ok (.aload_n 0, 1) := by decide +kernel
theorem d4_6 : decode prog_33_method_8_code 6 = .ok (.getfield 25, 3) := by decide +kernel
theorem d4_9 : decode prog_33_method_8_code 9 = .ok (.iload_n 1, 1) := by decide +kernel
theorem d4_10 : decode prog_33_method_8_code 10 = .ok (.invokestatic 39, 3) := by decide +kernel
theorem d4_13 : decode prog_33_method_8_code 13 = .ok (.istore_n 2, 1) := by decide +kernel
theorem d4_14 : decode prog_33_method_8_code 14 = .ok (.iload_n 2, 1) := by decide +kernel
theorem d4_15 : decode prog_33_method_8_code 15 = .ok (.ifCond .ge 7, 3) := by decide +kernel
theorem d4_18 : decode prog_33_method_8_code 18 = .ok (.iconst 0, 1) := by decide +kernel
theorem d4_19 : decode prog_33_method_8_code 19 = .ok (.goto 9, 3) := by decide +kernel
theorem d4_22 : decode prog_33_method_8_code 22 = .ok (.aload_n 0, 1) := by decide +kernel
theorem d4_23 : decode prog_33_method_8_code 23 = .ok (.getfield 22, 3) := by decide +kernel
theorem d4_26 : decode prog_33_method_8_code 26 = .ok (.iload_n 2, 1) := by decide +kernel
theorem d4_27 : decode prog_33_method_8_code 27 = .ok (.iaload, 1) := by decide +kernel
theorem d4_28 : decode prog_33_method_8_code 28 = .ok (.ireturn, 1) := by decide +kernel
theorem pn_4 : plainFor (⟨"com/example/inverse_frequency/inversefrequency/Postings", "frequencyIn", "(I)I"⟩ : MethodName) = true := plainFor_of_name (by first | (simp [plainName, overriddenIn]; done) | decide +kernel)
theorem ef_4n0 (m : MethodId) (x0 : Addr) (x1 : Int32) : entryFrame m #[(.ref x0), (.int x1)] 3 = mkF m 0 #[.val (.ref x0), .val (.int x1), .unset] [] := by first | (simp [entryFrame, mkF, argsToLocals, Value.category, maxLocals]; done) | rfl
def Q4n0 (Z : State) (a : Addr) (da : Addr) (fa : Addr) (t : Int64) (cp : Nat) (f : Nat → Int32) (g : Nat → Int32) (x : Int32) (h0 : Heap) (n0 : Nat) (v : Option Value) (h : Heap) (L : List Loc) : Prop := Fr n0 L ∧ h = h0 ∧ ∃ r, v = some (.int r) ∧ own_fi 0 f g x r
set_option maxRecDepth 65536 in
set_option maxHeartbeats 40000000 in
theorem rm4n0 (l : Launch) (Z : State) (a0 : Array Value) (hw : ∀ d ∈ tables_1, d.before a0 Z = true) (ws : List Jvm.Cond) (a : Addr) (da : Addr) (fa : Addr) (t : Int64) (cp : Nat) (f : Nat → Int32) (g : Nat → Int32) (x : Int32) (h0 : Heap) (n0 : Nat) (Z0 : n0 ≤ h0.size) (HA : own_P Z h0 n0 a da fa 0 t cp f g) (hn : 0 ≤ cp) :
    MetFree l (⟨"com/example/inverse_frequency/inversefrequency/Postings", "frequencyIn", "(I)I"⟩ : MethodName) (head1 (Jvm.Cond.code (⟨"com/example/inverse_frequency/inversefrequency/Postings", "frequencyIn", "(I)I"⟩ : MethodName) prog_33_method_8_code 3 (some .int) :: ws) ({ frames := 2, cells := 0, slots := 0, locals := 40 } : Room)) (fun arr' U => arr' = #[(.ref a), (.int x)] ∧ Z.Warmed39 U.vm ∧ U.heap = h0) (fun _ _ _ _ _ => True) (fun _ U o U' => ∃ v L, o = .returned v ∧ (Q4n0 Z a da fa t cp f g x h0 n0) v U'.heap L ∧ FrameEnd U o U' L ({ frames := 2, cells := 0, slots := 0, locals := 40 } : Room).cells ({ frames := 2, cells := 0, slots := 0, locals := 40 } : Room).slots) := by
  refine MetFree.of_bodySF pn_4 hisR ?_
  intro p e s m args below meth c s₁ Bd hml0 hP hK
  obtain ⟨rfl, hZ, hh⟩ := hP
  have hx := Bd.exec
  have hby := Bd.bytes
  have hlk : meth.locks = false := BodyLoose.notSynchronized Bd
  have hml : c.maxLocals = 3 := hml0
  have hown : s.vm.findClass "com/example/inverse_frequency/inversefrequency/Postings" = some m.cls := findClass_of_methodNamed Bd.named
  have hnm := (name_of_methodNamed Bd.named Bd.method).1
  have X0 : Stand p l e ({ frames := 2, cells := 0, slots := 0, locals := 40 } : Room) s m #[(.ref a), (.int x)] below meth c s₁ [] 0 0 := Stand.of_body Bd
  have e0 : s₁.heap = h0 := by rw [← hh, Bd.state]; rfl
  have N := Fr.nil n0
  have Zs := Z0
  change OwnGo p.tables e below (OwnEnd s (Q4n0 Z a da fa t cp f g x h0 n0) ({ frames := 2, cells := 0, slots := 0, locals := 40 } : Room).cells ({ frames := 2, cells := 0, slots := 0, locals := 40 } : Room).slots) _
  refine OwnGo.fwd (fun tq' kq' => castTop (ef_4n0 m a x) kq') ?_
  show OwnGo _ _ _ _ (s₁.setTop (mkF m 0 #[.val (.ref a), .val (.int x), .unset] []))
  obtain ⟨E_a, F_documents_a, F_frequencies_a, F_size_a, F_totalFrequency_a, V_da, V_fa, ne_a_da, ne_a_fa, ne_da_fa, g_a, g_da, g_fa⟩ := HA
  refine OwnGo.fwd (fun tq' kq' => XS.aloadN X0.here hx rfl (hb hby d4_0) rfl rfl kq') ?_
  show OwnGo _ _ _ _ (s₁.setTop (mkF m 1 #[.val (.ref a), .val (.int x), .unset] [(.ref a)]))
  obtain ⟨T1, X1, e1, st1⟩ := getF X0 hx hZ hown (host := "") (Or.inl (hw _ (List.mem_of_getElem? (i := 15) rfl))) Via.refl e0 F_documents_a (g := (mkF m 1 #[.val (.ref a), .val (.int x), .unset] [(.ref a)])) rfl rfl (hb hby d4_1)
  refine OwnGo.fwd st1 ?_
  show OwnGo _ _ _ _ (T1.setTop (mkF m 4 #[.val (.ref a), .val (.int x), .unset] [(.ref da)]))
  refine OwnGo.fwd (fun tq' kq' => XS.iconst X1.here hx rfl (hb hby d4_4) kq') ?_
  show OwnGo _ _ _ _ (T1.setTop (mkF m 5 #[.val (.ref a), .val (.int x), .unset] [(.int (0 : Int32)), (.ref da)]))
  refine OwnGo.fwd (fun tq' kq' => XS.aloadN X1.here hx rfl (hb hby d4_5) rfl rfl kq') ?_
  show OwnGo _ _ _ _ (T1.setTop (mkF m 6 #[.val (.ref a), .val (.int x), .unset] [(.ref a), (.int (0 : Int32)), (.ref da)]))
  obtain ⟨T2, X2, e2, st2⟩ := getF X1 hx hZ hown (host := "") (Or.inl (hw _ (List.mem_of_getElem? (i := 24) rfl))) Via.refl e1 F_size_a (g := (mkF m 6 #[.val (.ref a), .val (.int x), .unset] [(.ref a), (.int (0 : Int32)), (.ref da)])) rfl rfl (hb hby d4_6)
  refine OwnGo.fwd st2 ?_
  show OwnGo _ _ _ _ (T2.setTop (mkF m 9 #[.val (.ref a), .val (.int x), .unset] [(.int (Int32.ofNat 0)), (.int (0 : Int32)), (.ref da)]))
  refine OwnGo.fwd (fun tq' kq' => XS.iloadN X2.here hx rfl (hb hby d4_9) rfl kq') ?_
  show OwnGo _ _ _ _ (T2.setTop (mkF m 10 #[.val (.ref a), .val (.int x), .unset] [(.int x), (.int (Int32.ofNat 0)), (.int (0 : Int32)), (.ref da)]))
  obtain ⟨_, _, ⟨T3, L3, k3, n3⟩, -, X3, ⟨Lc3, hQ3, l3, y3, z3⟩, st3⟩ := Jvm.LawKit.callS X2 hx (y := (⟨"java/util/Arrays", "binarySearch", "([IIII)I"⟩ : MethodName)) hown (mvT hZ (hw _ (List.mem_of_getElem? (i := 26) rfl))) (mvT hZ (hw _ (List.mem_of_getElem? (i := 27) rfl))) (mvT hZ (hw _ (List.mem_of_getElem? (i := 28) rfl))) (mvT hZ (hw _ (List.mem_of_getElem? (i := 29) rfl))) (by decide) (backOf (W := 0) (rm5n0 l Z a0 hw [] da cp f x h0 n0 Zs V_da hn) hZ (hw _ (List.mem_of_getElem? (i := 29) rfl)) (hw _ (List.mem_of_getElem? (i := 28) rfl)) (by decide) (by decide)) (g := (mkF m 10 #[.val (.ref a), .val (.int x), .unset] [(.int x), (.int (Int32.ofNat 0)), (.int (0 : Int32)), (.ref da)])) rfl (by rw [hml]; rfl) (argsL := [(.ref da), (.int (0 : Int32)), (.int (Int32.ofNat 0)), (.int x)]) (rest := []) (lenOf pd_4 rfl) rfl (by show 2 * 0 + _ ≤ _; exact Nat.le_of_eq rfl) (hb hby d4_10) (fun _ _ => ⟨rfl, e2, (by decide : 0 + 0 ≤ _), (by decide : 0 + 0 ≤ _)⟩)
  dsimp only [Pt.U, Pt.locs, Pt.cells, Pt.slots] at X3 l3 y3 z3 st3 hQ3
  subst l3 y3 z3
  obtain ⟨N3q, e3, z3, rfl, hb3⟩ := hQ3
  have N := Fr.app N N3q
  refine OwnGo.fwd st3 ?_
  show OwnGo _ _ _ _ (T3.setTop (mkF m 13 #[.val (.ref a), .val (.int x), .unset] [(.int z3)]))
  refine OwnGo.fwd (fun tq' kq' => XS.istoreN X3.here hx rfl (hb hby d4_13) rfl (l' := #[.val (.ref a), .val (.int x), .val (.int z3)]) rfl kq') ?_
  show OwnGo _ _ _ _ (T3.setTop (mkF m 14 #[.val (.ref a), .val (.int x), .val (.int z3)] []))
  refine OwnGo.fwd (fun tq' kq' => XS.iloadN X3.here hx rfl (hb hby d4_14) rfl kq') ?_
  show OwnGo _ _ _ _ (T3.setTop (mkF m 15 #[.val (.ref a), .val (.int x), .val (.int z3)] [(.int z3)]))
  by_cases hc15_4 : z3.toInt < 0
  · refine OwnGo.fwd (fun tq' kq' => XS.ifNo X3.here hx rfl (hb hby d4_15) rfl ((if0 _ _).trans (own_blt rfl (by decide) hc15_4).2.1) kq') ?_
    show OwnGo _ _ _ _ (T3.setTop (mkF m 18 #[.val (.ref a), .val (.int x), .val (.int z3)] []))
    refine OwnGo.fwd (fun tq' kq' => XS.iconst X3.here hx rfl (hb hby d4_18) kq') ?_
    show OwnGo _ _ _ _ (T3.setTop (mkF m 19 #[.val (.ref a), .val (.int x), .val (.int z3)] [(.int (0 : Int32))]))
    refine OwnGo.fwd (fun tq' kq' => XS.goto X3.here hx rfl (pc0 := 19) (pc' := 28) rfl (hb hby d4_19) (by decide) (by decide) kq') ?_
    show OwnGo _ _ _ _ (T3.setTop (mkF m 28 #[.val (.ref a), .val (.int x), .val (.int z3)] [(.int (0 : Int32))]))
    exact own_retI X3 hlk hx Bd.returns (hb hby d4_28) (by decide) (by decide) e3 ⟨N, rfl, _, rfl, Or.inr ⟨(hb3.resolve_left (fun ⟨i, hi, hz, _⟩ => by omega)).2, rfl⟩⟩
  · refine OwnGo.fwd (fun tq' kq' => XS.ifYes X3.here hx rfl (pc0 := 15) (pc' := 22) rfl (hb hby d4_15) rfl ((if0 _ _).trans (own_bnlt rfl (by decide) hc15_4).2.1) (by decide) (by decide) kq') ?_
    show OwnGo _ _ _ _ (T3.setTop (mkF m 22 #[.val (.ref a), .val (.int x), .val (.int z3)] []))
    obtain ⟨i, hi, hz, hfi⟩ := hb3.resolve_right (fun q => hc15_4 q.1)
    refine OwnGo.fwd (fun tq' kq' => XS.aloadN X3.here hx rfl (hb hby d4_22) rfl rfl kq') ?_
    show OwnGo _ _ _ _ (T3.setTop (mkF m 23 #[.val (.ref a), .val (.int x), .val (.int z3)] [(.ref a)]))
    obtain ⟨T5, X5, e5, st5⟩ := getF X3 hx hZ hown (host := "") (Or.inl (hw _ (List.mem_of_getElem? (i := 17) rfl))) Via.refl e3 F_frequencies_a (g := (mkF m 23 #[.val (.ref a), .val (.int x), .val (.int z3)] [(.ref a)])) rfl rfl (hb hby d4_23)
    refine OwnGo.fwd st5 ?_
    show OwnGo _ _ _ _ (T5.setTop (mkF m 26 #[.val (.ref a), .val (.int x), .val (.int z3)] [(.ref fa)]))
    refine OwnGo.fwd (fun tq' kq' => XS.iloadN X5.here hx rfl (hb hby d4_26) rfl kq') ?_
    show OwnGo _ _ _ _ (T5.setTop (mkF m 27 #[.val (.ref a), .val (.int x), .val (.int z3)] [(.int z3), (.ref fa)]))
    refine OwnGo.fwd (fun tq' kq' => own_iaload X5 hx hZ e5 V_fa (i := i) hz (by omega) (g := (mkF m 27 #[.val (.ref a), .val (.int x), .val (.int z3)] [(.int z3), (.ref fa)])) rfl rfl (hb hby d4_27) tq' kq') ?_
    show OwnGo _ _ _ _ (T5.setTop (mkF m 28 #[.val (.ref a), .val (.int x), .val (.int z3)] [(.int (g i))]))
    exact own_retI X5 hlk hx Bd.returns (hb hby d4_28) (by decide) (by decide) e5 ⟨N, rfl, _, rfl, Or.inl ⟨i, hi, hfi, rfl⟩⟩
theorem ef_7n1 (m : MethodId) (x0 : Addr) (x1 : Int32) (x2 : Int32) (x3 : Int32) : entryFrame m #[(.ref x0), (.int x1), (.int x2), (.int x3)] 8 = mkF m 0 #[.val (.ref x0), .val (.int x1), .val (.int x2), .val (.int x3), .unset, .unset, .unset, .unset] [] := by first | (simp [entryFrame, mkF, argsToLocals, Value.category, maxLocals]; done) | rfl
def Q7n1 (Z : State) (d : Addr) (cp : Nat) (f : Nat → Int32) (x : Int32) (h0 : Heap) (n0 : Nat) (v : Option Value) (h : Heap) (L : List Loc) : Prop := Fr n0 L ∧ h = h0 ∧ ∃ z, v = some (.int z) ∧ own_bs 1 f x z
set_option maxRecDepth 65536 in
set_option maxHeartbeats 40000000 in
theorem rm7n1 (l : Launch) (Z : State) (a0 : Array Value) (hw : ∀ d ∈ tables_1, d.before a0 Z = true) (ws : List Jvm.Cond) (d : Addr) (cp : Nat) (f : Nat → Int32) (x : Int32) (h0 : Heap) (n0 : Nat) (Z0 : n0 ≤ h0.size) (V_d : OwnIA Z h0 d cp f) (hn : 1 ≤ cp) :
    MetFree l (⟨"java/util/Arrays", "binarySearch0", "([IIII)I"⟩ : MethodName) (head1 (Jvm.Cond.code (⟨"java/util/Arrays", "binarySearch0", "([IIII)I"⟩ : MethodName) jdk_65_method_59_code 8 (some .int) :: ws) ({ frames := 0, cells := 0, slots := 0, locals := 0 } : Room)) (fun arr' U => arr' = #[(.ref d), (.int (0 : Int32)), (.int (1 : Int32)), (.int x)] ∧ Z.Warmed39 U.vm ∧ U.heap = h0) (fun _ _ _ _ _ => True) (fun _ U o U' => ∃ v L, o = .returned v ∧ (Q7n1 Z d cp f x h0 n0) v U'.heap L ∧ FrameEnd U o U' L ({ frames := 0, cells := 0, slots := 0, locals := 0 } : Room).cells ({ frames := 0, cells := 0, slots := 0, locals := 0 } : Room).slots) := by
  refine MetFree.of_bodySF pn_7 hisR ?_
  intro p e s m args below meth c s₁ Bd hml0 hP hK
  obtain ⟨rfl, hZ, hh⟩ := hP
  have hx := Bd.exec
  have hby := Bd.bytes
  have hlk : meth.locks = false := BodyLoose.notSynchronized Bd
  have hml : c.maxLocals = 8 := hml0
  have hown : s.vm.findClass "java/util/Arrays" = some m.cls := findClass_of_methodNamed Bd.named
  have hnm := (name_of_methodNamed Bd.named Bd.method).1
  have X0 : Stand p l e ({ frames := 0, cells := 0, slots := 0, locals := 0 } : Room) s m #[(.ref d), (.int (0 : Int32)), (.int (1 : Int32)), (.int x)] below meth c s₁ [] 0 0 := Stand.of_body Bd
  have e0 : s₁.heap = h0 := by rw [← hh, Bd.state]; rfl
  have N := Fr.nil n0
  have Zs := Z0
  change OwnGo p.tables e below (OwnEnd s (Q7n1 Z d cp f x h0 n0) ({ frames := 0, cells := 0, slots := 0, locals := 0 } : Room).cells ({ frames := 0, cells := 0, slots := 0, locals := 0 } : Room).slots) _
  refine OwnGo.fwd (fun tq' kq' => castTop (ef_7n1 m d (0 : Int32) (1 : Int32) x) kq') ?_
  show OwnGo _ _ _ _ (s₁.setTop (mkF m 0 #[.val (.ref d), .val (.int (0 : Int32)), .val (.int (1 : Int32)), .val (.int x), .unset, .unset, .unset, .unset] []))
  refine OwnGo.fwd (fun tq' kq' => XS.iloadN X0.here hx rfl (hb hby d7_0) rfl kq') ?_
  show OwnGo _ _ _ _ (s₁.setTop (mkF m 1 #[.val (.ref d), .val (.int (0 : Int32)), .val (.int (1 : Int32)), .val (.int x), .unset, .unset, .unset, .unset] [(.int (0 : Int32))]))
  refine OwnGo.fwd (fun tq' kq' => XS.istore X0.here hx rfl (hb hby d7_1) rfl (l' := #[.val (.ref d), .val (.int (0 : Int32)), .val (.int (1 : Int32)), .val (.int x), .val (.int (0 : Int32)), .unset, .unset, .unset]) rfl kq') ?_
  show OwnGo _ _ _ _ (s₁.setTop (mkF m 3 #[.val (.ref d), .val (.int (0 : Int32)), .val (.int (1 : Int32)), .val (.int x), .val (.int (0 : Int32)), .unset, .unset, .unset] []))
  refine OwnGo.fwd (fun tq' kq' => XS.iloadN X0.here hx rfl (hb hby d7_3) rfl kq') ?_
  show OwnGo _ _ _ _ (s₁.setTop (mkF m 4 #[.val (.ref d), .val (.int (0 : Int32)), .val (.int (1 : Int32)), .val (.int x), .val (.int (0 : Int32)), .unset, .unset, .unset] [(.int (1 : Int32))]))
  refine OwnGo.fwd (fun tq' kq' => XS.iconst X0.here hx rfl (hb hby d7_4) kq') ?_
  show OwnGo _ _ _ _ (s₁.setTop (mkF m 5 #[.val (.ref d), .val (.int (0 : Int32)), .val (.int (1 : Int32)), .val (.int x), .val (.int (0 : Int32)), .unset, .unset, .unset] [(.int (1 : Int32)), (.int (1 : Int32))]))
  refine OwnGo.fwd (fun tq' kq' => XS.isub X0.here hx rfl (hb hby d7_5) rfl kq') ?_
  show OwnGo _ _ _ _ (s₁.setTop (mkF m 6 #[.val (.ref d), .val (.int (0 : Int32)), .val (.int (1 : Int32)), .val (.int x), .val (.int (0 : Int32)), .unset, .unset, .unset] [(.int (0 : Int32))]))
  refine OwnGo.fwd (fun tq' kq' => XS.istore X0.here hx rfl (hb hby d7_6) rfl (l' := #[.val (.ref d), .val (.int (0 : Int32)), .val (.int (1 : Int32)), .val (.int x), .val (.int (0 : Int32)), .val (.int (0 : Int32)), .unset, .unset]) rfl kq') ?_
  show OwnGo _ _ _ _ (s₁.setTop (mkF m 8 #[.val (.ref d), .val (.int (0 : Int32)), .val (.int (1 : Int32)), .val (.int x), .val (.int (0 : Int32)), .val (.int (0 : Int32)), .unset, .unset] []))
  refine OwnGo.fwd (fun tq' kq' => XS.iload X0.here hx rfl (hb hby d7_8) rfl kq') ?_
  show OwnGo _ _ _ _ (s₁.setTop (mkF m 10 #[.val (.ref d), .val (.int (0 : Int32)), .val (.int (1 : Int32)), .val (.int x), .val (.int (0 : Int32)), .val (.int (0 : Int32)), .unset, .unset] [(.int (0 : Int32))]))
  refine OwnGo.fwd (fun tq' kq' => XS.iload X0.here hx rfl (hb hby d7_10) rfl kq') ?_
  show OwnGo _ _ _ _ (s₁.setTop (mkF m 12 #[.val (.ref d), .val (.int (0 : Int32)), .val (.int (1 : Int32)), .val (.int x), .val (.int (0 : Int32)), .val (.int (0 : Int32)), .unset, .unset] [(.int (0 : Int32)), (.int (0 : Int32))]))
  have hc12_1 : ¬ ((0 : Int) < (0 : Int)) := by decide
  refine OwnGo.fwd (fun tq' kq' => XS.icmpNo X0.here hx rfl (hb hby d7_12) rfl (own_bnlt (by decide) (by decide) hc12_1).2.2.1 kq') ?_
  show OwnGo _ _ _ _ (s₁.setTop (mkF m 15 #[.val (.ref d), .val (.int (0 : Int32)), .val (.int (1 : Int32)), .val (.int x), .val (.int (0 : Int32)), .val (.int (0 : Int32)), .unset, .unset] []))
  refine OwnGo.fwd (fun tq' kq' => XS.iload X0.here hx rfl (hb hby d7_15) rfl kq') ?_
  show OwnGo _ _ _ _ (s₁.setTop (mkF m 17 #[.val (.ref d), .val (.int (0 : Int32)), .val (.int (1 : Int32)), .val (.int x), .val (.int (0 : Int32)), .val (.int (0 : Int32)), .unset, .unset] [(.int (0 : Int32))]))
  refine OwnGo.fwd (fun tq' kq' => XS.iload X0.here hx rfl (hb hby d7_17) rfl kq') ?_
  show OwnGo _ _ _ _ (s₁.setTop (mkF m 19 #[.val (.ref d), .val (.int (0 : Int32)), .val (.int (1 : Int32)), .val (.int x), .val (.int (0 : Int32)), .val (.int (0 : Int32)), .unset, .unset] [(.int (0 : Int32)), (.int (0 : Int32))]))
  refine OwnGo.fwd (fun tq' kq' => XS.iadd X0.here hx rfl (hb hby d7_19) rfl kq') ?_
  show OwnGo _ _ _ _ (s₁.setTop (mkF m 20 #[.val (.ref d), .val (.int (0 : Int32)), .val (.int (1 : Int32)), .val (.int x), .val (.int (0 : Int32)), .val (.int (0 : Int32)), .unset, .unset] [(.int (0 : Int32))]))
  refine OwnGo.fwd (fun tq' kq' => XS.iconst X0.here hx rfl (hb hby d7_20) kq') ?_
  show OwnGo _ _ _ _ (s₁.setTop (mkF m 21 #[.val (.ref d), .val (.int (0 : Int32)), .val (.int (1 : Int32)), .val (.int x), .val (.int (0 : Int32)), .val (.int (0 : Int32)), .unset, .unset] [(.int (1 : Int32)), (.int (0 : Int32))]))
  refine OwnGo.fwd (fun tq' kq' => XS.iushr X0.here hx rfl (hb hby d7_21) rfl kq') ?_
  show OwnGo _ _ _ _ (s₁.setTop (mkF m 22 #[.val (.ref d), .val (.int (0 : Int32)), .val (.int (1 : Int32)), .val (.int x), .val (.int (0 : Int32)), .val (.int (0 : Int32)), .unset, .unset] [(.int (0 : Int32))]))
  refine OwnGo.fwd (fun tq' kq' => XS.istore X0.here hx rfl (hb hby d7_22) rfl (l' := #[.val (.ref d), .val (.int (0 : Int32)), .val (.int (1 : Int32)), .val (.int x), .val (.int (0 : Int32)), .val (.int (0 : Int32)), .val (.int (0 : Int32)), .unset]) rfl kq') ?_
  show OwnGo _ _ _ _ (s₁.setTop (mkF m 24 #[.val (.ref d), .val (.int (0 : Int32)), .val (.int (1 : Int32)), .val (.int x), .val (.int (0 : Int32)), .val (.int (0 : Int32)), .val (.int (0 : Int32)), .unset] []))
  refine OwnGo.fwd (fun tq' kq' => XS.aloadN X0.here hx rfl (hb hby d7_24) rfl rfl kq') ?_
  show OwnGo _ _ _ _ (s₁.setTop (mkF m 25 #[.val (.ref d), .val (.int (0 : Int32)), .val (.int (1 : Int32)), .val (.int x), .val (.int (0 : Int32)), .val (.int (0 : Int32)), .val (.int (0 : Int32)), .unset] [(.ref d)]))
  refine OwnGo.fwd (fun tq' kq' => XS.iload X0.here hx rfl (hb hby d7_25) rfl kq') ?_
  show OwnGo _ _ _ _ (s₁.setTop (mkF m 27 #[.val (.ref d), .val (.int (0 : Int32)), .val (.int (1 : Int32)), .val (.int x), .val (.int (0 : Int32)), .val (.int (0 : Int32)), .val (.int (0 : Int32)), .unset] [(.int (0 : Int32)), (.ref d)]))
  refine OwnGo.fwd (fun tq' kq' => own_iaload X0 hx hZ e0 V_d (i := 0) (by decide) (by omega) (g := (mkF m 27 #[.val (.ref d), .val (.int (0 : Int32)), .val (.int (1 : Int32)), .val (.int x), .val (.int (0 : Int32)), .val (.int (0 : Int32)), .val (.int (0 : Int32)), .unset] [(.int (0 : Int32)), (.ref d)])) rfl rfl (hb hby d7_27) tq' kq') ?_
  show OwnGo _ _ _ _ (s₁.setTop (mkF m 28 #[.val (.ref d), .val (.int (0 : Int32)), .val (.int (1 : Int32)), .val (.int x), .val (.int (0 : Int32)), .val (.int (0 : Int32)), .val (.int (0 : Int32)), .unset] [(.int (f 0))]))
  refine OwnGo.fwd (fun tq' kq' => XS.istore X0.here hx rfl (hb hby d7_28) rfl (l' := #[.val (.ref d), .val (.int (0 : Int32)), .val (.int (1 : Int32)), .val (.int x), .val (.int (0 : Int32)), .val (.int (0 : Int32)), .val (.int (0 : Int32)), .val (.int (f 0))]) rfl kq') ?_
  show OwnGo _ _ _ _ (s₁.setTop (mkF m 30 #[.val (.ref d), .val (.int (0 : Int32)), .val (.int (1 : Int32)), .val (.int x), .val (.int (0 : Int32)), .val (.int (0 : Int32)), .val (.int (0 : Int32)), .val (.int (f 0))] []))
  refine OwnGo.fwd (fun tq' kq' => XS.iload X0.here hx rfl (hb hby d7_30) rfl kq') ?_
  show OwnGo _ _ _ _ (s₁.setTop (mkF m 32 #[.val (.ref d), .val (.int (0 : Int32)), .val (.int (1 : Int32)), .val (.int x), .val (.int (0 : Int32)), .val (.int (0 : Int32)), .val (.int (0 : Int32)), .val (.int (f 0))] [(.int (f 0))]))
  refine OwnGo.fwd (fun tq' kq' => XS.iloadN X0.here hx rfl (hb hby d7_32) rfl kq') ?_
  show OwnGo _ _ _ _ (s₁.setTop (mkF m 33 #[.val (.ref d), .val (.int (0 : Int32)), .val (.int (1 : Int32)), .val (.int x), .val (.int (0 : Int32)), .val (.int (0 : Int32)), .val (.int (0 : Int32)), .val (.int (f 0))] [(.int x), (.int (f 0))]))
  by_cases hc33_2 : (f 0).toInt < x.toInt
  · refine OwnGo.fwd (fun tq' kq' => XS.icmpNo X0.here hx rfl (hb hby d7_33) rfl (own_blt rfl rfl hc33_2).2.1 kq') ?_
    show OwnGo _ _ _ _ (s₁.setTop (mkF m 36 #[.val (.ref d), .val (.int (0 : Int32)), .val (.int (1 : Int32)), .val (.int x), .val (.int (0 : Int32)), .val (.int (0 : Int32)), .val (.int (0 : Int32)), .val (.int (f 0))] []))
    refine OwnGo.fwd (fun tq' kq' => XS.iload X0.here hx rfl (hb hby d7_36) rfl kq') ?_
    show OwnGo _ _ _ _ (s₁.setTop (mkF m 38 #[.val (.ref d), .val (.int (0 : Int32)), .val (.int (1 : Int32)), .val (.int x), .val (.int (0 : Int32)), .val (.int (0 : Int32)), .val (.int (0 : Int32)), .val (.int (f 0))] [(.int (0 : Int32))]))
    refine OwnGo.fwd (fun tq' kq' => XS.iconst X0.here hx rfl (hb hby d7_38) kq') ?_
    show OwnGo _ _ _ _ (s₁.setTop (mkF m 39 #[.val (.ref d), .val (.int (0 : Int32)), .val (.int (1 : Int32)), .val (.int x), .val (.int (0 : Int32)), .val (.int (0 : Int32)), .val (.int (0 : Int32)), .val (.int (f 0))] [(.int (1 : Int32)), (.int (0 : Int32))]))
    refine OwnGo.fwd (fun tq' kq' => XS.iadd X0.here hx rfl (hb hby d7_39) rfl kq') ?_
    show OwnGo _ _ _ _ (s₁.setTop (mkF m 40 #[.val (.ref d), .val (.int (0 : Int32)), .val (.int (1 : Int32)), .val (.int x), .val (.int (0 : Int32)), .val (.int (0 : Int32)), .val (.int (0 : Int32)), .val (.int (f 0))] [(.int (1 : Int32))]))
    refine OwnGo.fwd (fun tq' kq' => XS.istore X0.here hx rfl (hb hby d7_40) rfl (l' := #[.val (.ref d), .val (.int (0 : Int32)), .val (.int (1 : Int32)), .val (.int x), .val (.int (1 : Int32)), .val (.int (0 : Int32)), .val (.int (0 : Int32)), .val (.int (f 0))]) rfl kq') ?_
    show OwnGo _ _ _ _ (s₁.setTop (mkF m 42 #[.val (.ref d), .val (.int (0 : Int32)), .val (.int (1 : Int32)), .val (.int x), .val (.int (1 : Int32)), .val (.int (0 : Int32)), .val (.int (0 : Int32)), .val (.int (f 0))] []))
    refine OwnGo.fwd (fun tq' kq' => XS.goto X0.here hx rfl (pc0 := 42) (pc' := 63) rfl (hb hby d7_42) (by decide) (by decide) kq') ?_
    show OwnGo _ _ _ _ (s₁.setTop (mkF m 63 #[.val (.ref d), .val (.int (0 : Int32)), .val (.int (1 : Int32)), .val (.int x), .val (.int (1 : Int32)), .val (.int (0 : Int32)), .val (.int (0 : Int32)), .val (.int (f 0))] []))
    refine OwnGo.fwd (fun tq' kq' => XS.goto X0.here hx rfl (pc0 := 63) (pc' := 8) rfl (hb hby d7_63) (by decide) (by decide) kq') ?_
    show OwnGo _ _ _ _ (s₁.setTop (mkF m 8 #[.val (.ref d), .val (.int (0 : Int32)), .val (.int (1 : Int32)), .val (.int x), .val (.int (1 : Int32)), .val (.int (0 : Int32)), .val (.int (0 : Int32)), .val (.int (f 0))] []))
    refine OwnGo.fwd (fun tq' kq' => XS.iload X0.here hx rfl (hb hby d7_8) rfl kq') ?_
    show OwnGo _ _ _ _ (s₁.setTop (mkF m 10 #[.val (.ref d), .val (.int (0 : Int32)), .val (.int (1 : Int32)), .val (.int x), .val (.int (1 : Int32)), .val (.int (0 : Int32)), .val (.int (0 : Int32)), .val (.int (f 0))] [(.int (1 : Int32))]))
    refine OwnGo.fwd (fun tq' kq' => XS.iload X0.here hx rfl (hb hby d7_10) rfl kq') ?_
    show OwnGo _ _ _ _ (s₁.setTop (mkF m 12 #[.val (.ref d), .val (.int (0 : Int32)), .val (.int (1 : Int32)), .val (.int x), .val (.int (1 : Int32)), .val (.int (0 : Int32)), .val (.int (0 : Int32)), .val (.int (f 0))] [(.int (0 : Int32)), (.int (1 : Int32))]))
    have hc12_3 : (0 : Int) < (1 : Int) := by decide
    refine OwnGo.fwd (fun tq' kq' => XS.icmpYes X0.here hx rfl (pc0 := 12) (pc' := 66) rfl (hb hby d7_12) rfl (own_blt (by decide) (by decide) hc12_3).2.2.1 (by decide) (by decide) kq') ?_
    show OwnGo _ _ _ _ (s₁.setTop (mkF m 66 #[.val (.ref d), .val (.int (0 : Int32)), .val (.int (1 : Int32)), .val (.int x), .val (.int (1 : Int32)), .val (.int (0 : Int32)), .val (.int (0 : Int32)), .val (.int (f 0))] []))
    refine OwnGo.fwd (fun tq' kq' => XS.iload X0.here hx rfl (hb hby d7_66) rfl kq') ?_
    show OwnGo _ _ _ _ (s₁.setTop (mkF m 68 #[.val (.ref d), .val (.int (0 : Int32)), .val (.int (1 : Int32)), .val (.int x), .val (.int (1 : Int32)), .val (.int (0 : Int32)), .val (.int (0 : Int32)), .val (.int (f 0))] [(.int (1 : Int32))]))
    refine OwnGo.fwd (fun tq' kq' => XS.iconst X0.here hx rfl (hb hby d7_68) kq') ?_
    show OwnGo _ _ _ _ (s₁.setTop (mkF m 69 #[.val (.ref d), .val (.int (0 : Int32)), .val (.int (1 : Int32)), .val (.int x), .val (.int (1 : Int32)), .val (.int (0 : Int32)), .val (.int (0 : Int32)), .val (.int (f 0))] [(.int (1 : Int32)), (.int (1 : Int32))]))
    refine OwnGo.fwd (fun tq' kq' => XS.iadd X0.here hx rfl (hb hby d7_69) rfl kq') ?_
    show OwnGo _ _ _ _ (s₁.setTop (mkF m 70 #[.val (.ref d), .val (.int (0 : Int32)), .val (.int (1 : Int32)), .val (.int x), .val (.int (1 : Int32)), .val (.int (0 : Int32)), .val (.int (0 : Int32)), .val (.int (f 0))] [(.int (2 : Int32))]))
    refine OwnGo.fwd (fun tq' kq' => XS.ineg X0.here hx rfl (hb hby d7_70) rfl kq') ?_
    show OwnGo _ _ _ _ (s₁.setTop (mkF m 71 #[.val (.ref d), .val (.int (0 : Int32)), .val (.int (1 : Int32)), .val (.int x), .val (.int (1 : Int32)), .val (.int (0 : Int32)), .val (.int (0 : Int32)), .val (.int (f 0))] [(.int (-2 : Int32))]))
    exact own_retI X0 hlk hx Bd.returns (hb hby d7_71) (by decide) (by decide) e0 ⟨N, rfl, _, rfl, Or.inr ⟨by decide, fun i hi => by
        have : i = 0 := by omega
        rcases this with rfl <;> omega⟩⟩
  · refine OwnGo.fwd (fun tq' kq' => XS.icmpYes X0.here hx rfl (pc0 := 33) (pc' := 45) rfl (hb hby d7_33) rfl (own_bnlt rfl rfl hc33_2).2.1 (by decide) (by decide) kq') ?_
    show OwnGo _ _ _ _ (s₁.setTop (mkF m 45 #[.val (.ref d), .val (.int (0 : Int32)), .val (.int (1 : Int32)), .val (.int x), .val (.int (0 : Int32)), .val (.int (0 : Int32)), .val (.int (0 : Int32)), .val (.int (f 0))] []))
    refine OwnGo.fwd (fun tq' kq' => XS.iload X0.here hx rfl (hb hby d7_45) rfl kq') ?_
    show OwnGo _ _ _ _ (s₁.setTop (mkF m 47 #[.val (.ref d), .val (.int (0 : Int32)), .val (.int (1 : Int32)), .val (.int x), .val (.int (0 : Int32)), .val (.int (0 : Int32)), .val (.int (0 : Int32)), .val (.int (f 0))] [(.int (f 0))]))
    refine OwnGo.fwd (fun tq' kq' => XS.iloadN X0.here hx rfl (hb hby d7_47) rfl kq') ?_
    show OwnGo _ _ _ _ (s₁.setTop (mkF m 48 #[.val (.ref d), .val (.int (0 : Int32)), .val (.int (1 : Int32)), .val (.int x), .val (.int (0 : Int32)), .val (.int (0 : Int32)), .val (.int (0 : Int32)), .val (.int (f 0))] [(.int x), (.int (f 0))]))
    by_cases hc48_4 : x.toInt < (f 0).toInt
    · refine OwnGo.fwd (fun tq' kq' => XS.icmpNo X0.here hx rfl (hb hby d7_48) rfl (own_blt rfl rfl hc48_4).2.2.2 kq') ?_
      show OwnGo _ _ _ _ (s₁.setTop (mkF m 51 #[.val (.ref d), .val (.int (0 : Int32)), .val (.int (1 : Int32)), .val (.int x), .val (.int (0 : Int32)), .val (.int (0 : Int32)), .val (.int (0 : Int32)), .val (.int (f 0))] []))
      refine OwnGo.fwd (fun tq' kq' => XS.iload X0.here hx rfl (hb hby d7_51) rfl kq') ?_
      show OwnGo _ _ _ _ (s₁.setTop (mkF m 53 #[.val (.ref d), .val (.int (0 : Int32)), .val (.int (1 : Int32)), .val (.int x), .val (.int (0 : Int32)), .val (.int (0 : Int32)), .val (.int (0 : Int32)), .val (.int (f 0))] [(.int (0 : Int32))]))
      refine OwnGo.fwd (fun tq' kq' => XS.iconst X0.here hx rfl (hb hby d7_53) kq') ?_
      show OwnGo _ _ _ _ (s₁.setTop (mkF m 54 #[.val (.ref d), .val (.int (0 : Int32)), .val (.int (1 : Int32)), .val (.int x), .val (.int (0 : Int32)), .val (.int (0 : Int32)), .val (.int (0 : Int32)), .val (.int (f 0))] [(.int (1 : Int32)), (.int (0 : Int32))]))
      refine OwnGo.fwd (fun tq' kq' => XS.isub X0.here hx rfl (hb hby d7_54) rfl kq') ?_
      show OwnGo _ _ _ _ (s₁.setTop (mkF m 55 #[.val (.ref d), .val (.int (0 : Int32)), .val (.int (1 : Int32)), .val (.int x), .val (.int (0 : Int32)), .val (.int (0 : Int32)), .val (.int (0 : Int32)), .val (.int (f 0))] [(.int (-1 : Int32))]))
      refine OwnGo.fwd (fun tq' kq' => XS.istore X0.here hx rfl (hb hby d7_55) rfl (l' := #[.val (.ref d), .val (.int (0 : Int32)), .val (.int (1 : Int32)), .val (.int x), .val (.int (0 : Int32)), .val (.int (-1 : Int32)), .val (.int (0 : Int32)), .val (.int (f 0))]) rfl kq') ?_
      show OwnGo _ _ _ _ (s₁.setTop (mkF m 57 #[.val (.ref d), .val (.int (0 : Int32)), .val (.int (1 : Int32)), .val (.int x), .val (.int (0 : Int32)), .val (.int (-1 : Int32)), .val (.int (0 : Int32)), .val (.int (f 0))] []))
      refine OwnGo.fwd (fun tq' kq' => XS.goto X0.here hx rfl (pc0 := 57) (pc' := 63) rfl (hb hby d7_57) (by decide) (by decide) kq') ?_
      show OwnGo _ _ _ _ (s₁.setTop (mkF m 63 #[.val (.ref d), .val (.int (0 : Int32)), .val (.int (1 : Int32)), .val (.int x), .val (.int (0 : Int32)), .val (.int (-1 : Int32)), .val (.int (0 : Int32)), .val (.int (f 0))] []))
      refine OwnGo.fwd (fun tq' kq' => XS.goto X0.here hx rfl (pc0 := 63) (pc' := 8) rfl (hb hby d7_63) (by decide) (by decide) kq') ?_
      show OwnGo _ _ _ _ (s₁.setTop (mkF m 8 #[.val (.ref d), .val (.int (0 : Int32)), .val (.int (1 : Int32)), .val (.int x), .val (.int (0 : Int32)), .val (.int (-1 : Int32)), .val (.int (0 : Int32)), .val (.int (f 0))] []))
      refine OwnGo.fwd (fun tq' kq' => XS.iload X0.here hx rfl (hb hby d7_8) rfl kq') ?_
      show OwnGo _ _ _ _ (s₁.setTop (mkF m 10 #[.val (.ref d), .val (.int (0 : Int32)), .val (.int (1 : Int32)), .val (.int x), .val (.int (0 : Int32)), .val (.int (-1 : Int32)), .val (.int (0 : Int32)), .val (.int (f 0))] [(.int (0 : Int32))]))
      refine OwnGo.fwd (fun tq' kq' => XS.iload X0.here hx rfl (hb hby d7_10) rfl kq') ?_
      show OwnGo _ _ _ _ (s₁.setTop (mkF m 12 #[.val (.ref d), .val (.int (0 : Int32)), .val (.int (1 : Int32)), .val (.int x), .val (.int (0 : Int32)), .val (.int (-1 : Int32)), .val (.int (0 : Int32)), .val (.int (f 0))] [(.int (-1 : Int32)), (.int (0 : Int32))]))
      have hc12_5 : (-1 : Int) < (0 : Int) := by decide
      refine OwnGo.fwd (fun tq' kq' => XS.icmpYes X0.here hx rfl (pc0 := 12) (pc' := 66) rfl (hb hby d7_12) rfl (own_blt (by decide) (by decide) hc12_5).2.2.1 (by decide) (by decide) kq') ?_
      show OwnGo _ _ _ _ (s₁.setTop (mkF m 66 #[.val (.ref d), .val (.int (0 : Int32)), .val (.int (1 : Int32)), .val (.int x), .val (.int (0 : Int32)), .val (.int (-1 : Int32)), .val (.int (0 : Int32)), .val (.int (f 0))] []))
      refine OwnGo.fwd (fun tq' kq' => XS.iload X0.here hx rfl (hb hby d7_66) rfl kq') ?_
      show OwnGo _ _ _ _ (s₁.setTop (mkF m 68 #[.val (.ref d), .val (.int (0 : Int32)), .val (.int (1 : Int32)), .val (.int x), .val (.int (0 : Int32)), .val (.int (-1 : Int32)), .val (.int (0 : Int32)), .val (.int (f 0))] [(.int (0 : Int32))]))
      refine OwnGo.fwd (fun tq' kq' => XS.iconst X0.here hx rfl (hb hby d7_68) kq') ?_
      show OwnGo _ _ _ _ (s₁.setTop (mkF m 69 #[.val (.ref d), .val (.int (0 : Int32)), .val (.int (1 : Int32)), .val (.int x), .val (.int (0 : Int32)), .val (.int (-1 : Int32)), .val (.int (0 : Int32)), .val (.int (f 0))] [(.int (1 : Int32)), (.int (0 : Int32))]))
      refine OwnGo.fwd (fun tq' kq' => XS.iadd X0.here hx rfl (hb hby d7_69) rfl kq') ?_
      show OwnGo _ _ _ _ (s₁.setTop (mkF m 70 #[.val (.ref d), .val (.int (0 : Int32)), .val (.int (1 : Int32)), .val (.int x), .val (.int (0 : Int32)), .val (.int (-1 : Int32)), .val (.int (0 : Int32)), .val (.int (f 0))] [(.int (1 : Int32))]))
      refine OwnGo.fwd (fun tq' kq' => XS.ineg X0.here hx rfl (hb hby d7_70) rfl kq') ?_
      show OwnGo _ _ _ _ (s₁.setTop (mkF m 71 #[.val (.ref d), .val (.int (0 : Int32)), .val (.int (1 : Int32)), .val (.int x), .val (.int (0 : Int32)), .val (.int (-1 : Int32)), .val (.int (0 : Int32)), .val (.int (f 0))] [(.int (-1 : Int32))]))
      exact own_retI X0 hlk hx Bd.returns (hb hby d7_71) (by decide) (by decide) e0 ⟨N, rfl, _, rfl, Or.inr ⟨by decide, fun i hi => by
          have : i = 0 := by omega
          rcases this with rfl <;> omega⟩⟩
    · refine OwnGo.fwd (fun tq' kq' => XS.icmpYes X0.here hx rfl (pc0 := 48) (pc' := 60) rfl (hb hby d7_48) rfl (own_bnlt rfl rfl hc48_4).2.2.2 (by decide) (by decide) kq') ?_
      show OwnGo _ _ _ _ (s₁.setTop (mkF m 60 #[.val (.ref d), .val (.int (0 : Int32)), .val (.int (1 : Int32)), .val (.int x), .val (.int (0 : Int32)), .val (.int (0 : Int32)), .val (.int (0 : Int32)), .val (.int (f 0))] []))
      refine OwnGo.fwd (fun tq' kq' => XS.iload X0.here hx rfl (hb hby d7_60) rfl kq') ?_
      show OwnGo _ _ _ _ (s₁.setTop (mkF m 62 #[.val (.ref d), .val (.int (0 : Int32)), .val (.int (1 : Int32)), .val (.int x), .val (.int (0 : Int32)), .val (.int (0 : Int32)), .val (.int (0 : Int32)), .val (.int (f 0))] [(.int (0 : Int32))]))
      exact own_retI X0 hlk hx Bd.returns (hb hby d7_62) (by decide) (by decide) e0 ⟨N, rfl, _, rfl, Or.inl ⟨0, by decide, by decide, by omega⟩⟩
theorem ef_5n1 (m : MethodId) (x0 : Addr) (x1 : Int32) (x2 : Int32) (x3 : Int32) : entryFrame m #[(.ref x0), (.int x1), (.int x2), (.int x3)] 4 = mkF m 0 #[.val (.ref x0), .val (.int x1), .val (.int x2), .val (.int x3)] [] := by first | (simp [entryFrame, mkF, argsToLocals, Value.category, maxLocals]; done) | rfl
def Q5n1 (Z : State) (d : Addr) (cp : Nat) (f : Nat → Int32) (x : Int32) (h0 : Heap) (n0 : Nat) (v : Option Value) (h : Heap) (L : List Loc) : Prop := Fr n0 L ∧ h = h0 ∧ ∃ z, v = some (.int z) ∧ own_bs 1 f x z
set_option maxRecDepth 65536 in
set_option maxHeartbeats 40000000 in
theorem rm5n1 (l : Launch) (Z : State) (a0 : Array Value) (hw : ∀ d ∈ tables_1, d.before a0 Z = true) (ws : List Jvm.Cond) (d : Addr) (cp : Nat) (f : Nat → Int32) (x : Int32) (h0 : Heap) (n0 : Nat) (Z0 : n0 ≤ h0.size) (V_d : OwnIA Z h0 d cp f) (hn : 1 ≤ cp) :
    MetFree l (⟨"java/util/Arrays", "binarySearch", "([IIII)I"⟩ : MethodName) (head1 (Jvm.Cond.code (⟨"java/util/Arrays", "binarySearch", "([IIII)I"⟩ : MethodName) jdk_65_method_58_code 4 (some .int) :: ws) ({ frames := 1, cells := 0, slots := 0, locals := 20 } : Room)) (fun arr' U => arr' = #[(.ref d), (.int (0 : Int32)), (.int (1 : Int32)), (.int x)] ∧ Z.Warmed39 U.vm ∧ U.heap = h0) (fun _ _ _ _ _ => True) (fun _ U o U' => ∃ v L, o = .returned v ∧ (Q5n1 Z d cp f x h0 n0) v U'.heap L ∧ FrameEnd U o U' L ({ frames := 1, cells := 0, slots := 0, locals := 20 } : Room).cells ({ frames := 1, cells := 0, slots := 0, locals := 20 } : Room).slots) := by
  refine MetFree.of_bodySF pn_5 hisR ?_
  intro p e s m args below meth c s₁ Bd hml0 hP hK
  obtain ⟨rfl, hZ, hh⟩ := hP
  have hx := Bd.exec
  have hby := Bd.bytes
  have hlk : meth.locks = false := BodyLoose.notSynchronized Bd
  have hml : c.maxLocals = 4 := hml0
  have hown : s.vm.findClass "java/util/Arrays" = some m.cls := findClass_of_methodNamed Bd.named
  have hnm := (name_of_methodNamed Bd.named Bd.method).1
  have X0 : Stand p l e ({ frames := 1, cells := 0, slots := 0, locals := 20 } : Room) s m #[(.ref d), (.int (0 : Int32)), (.int (1 : Int32)), (.int x)] below meth c s₁ [] 0 0 := Stand.of_body Bd
  have e0 : s₁.heap = h0 := by rw [← hh, Bd.state]; rfl
  have N := Fr.nil n0
  have Zs := Z0
  change OwnGo p.tables e below (OwnEnd s (Q5n1 Z d cp f x h0 n0) ({ frames := 1, cells := 0, slots := 0, locals := 20 } : Room).cells ({ frames := 1, cells := 0, slots := 0, locals := 20 } : Room).slots) _
  refine OwnGo.fwd (fun tq' kq' => castTop (ef_5n1 m d (0 : Int32) (1 : Int32) x) kq') ?_
  show OwnGo _ _ _ _ (s₁.setTop (mkF m 0 #[.val (.ref d), .val (.int (0 : Int32)), .val (.int (1 : Int32)), .val (.int x)] []))
  have hcp : (Int32.ofNat cp).toInt = (cp : Int) := own_ofNat (by obtain ⟨_, _, _, r, _⟩ := V_d; exact r)
  refine OwnGo.fwd (fun tq' kq' => XS.aloadN X0.here hx rfl (hb hby d5_0) rfl rfl kq') ?_
  show OwnGo _ _ _ _ (s₁.setTop (mkF m 1 #[.val (.ref d), .val (.int (0 : Int32)), .val (.int (1 : Int32)), .val (.int x)] [(.ref d)]))
  refine OwnGo.fwd (fun tq' kq' => own_len X0 hx hZ e0 V_d (g := (mkF m 1 #[.val (.ref d), .val (.int (0 : Int32)), .val (.int (1 : Int32)), .val (.int x)] [(.ref d)])) rfl rfl (hb hby d5_1) tq' kq') ?_
  show OwnGo _ _ _ _ (s₁.setTop (mkF m 2 #[.val (.ref d), .val (.int (0 : Int32)), .val (.int (1 : Int32)), .val (.int x)] [(.int (Int32.ofNat cp))]))
  refine OwnGo.fwd (fun tq' kq' => XS.iloadN X0.here hx rfl (hb hby d5_2) rfl kq') ?_
  show OwnGo _ _ _ _ (s₁.setTop (mkF m 3 #[.val (.ref d), .val (.int (0 : Int32)), .val (.int (1 : Int32)), .val (.int x)] [(.int (0 : Int32)), (.int (Int32.ofNat cp))]))
  refine OwnGo.fwd (fun tq' kq' => XS.iloadN X0.here hx rfl (hb hby d5_3) rfl kq') ?_
  show OwnGo _ _ _ _ (s₁.setTop (mkF m 4 #[.val (.ref d), .val (.int (0 : Int32)), .val (.int (1 : Int32)), .val (.int x)] [(.int (1 : Int32)), (.int (0 : Int32)), (.int (Int32.ofNat cp))]))
  obtain ⟨_, _, ⟨T1, L1, k1, n1⟩, -, X1, ⟨Lc1, hQ1, l1, y1, z1⟩, st1⟩ := Jvm.LawKit.callS X0 hx (y := (⟨"java/util/Arrays", "rangeCheck", "(III)V"⟩ : MethodName)) hown (mvT hZ (hw _ (List.mem_of_getElem? (i := 30) rfl))) (mvT hZ (hw _ (List.mem_of_getElem? (i := 31) rfl))) (mvT hZ (hw _ (List.mem_of_getElem? (i := 28) rfl))) (mvT hZ (hw _ (List.mem_of_getElem? (i := 32) rfl))) (by decide) (backOf (W := 0) (rm6n1 l Z a0 hw [] cp h0 n0 Zs hcp hn) hZ (hw _ (List.mem_of_getElem? (i := 32) rfl)) (hw _ (List.mem_of_getElem? (i := 28) rfl)) (by decide) (by decide)) (g := (mkF m 4 #[.val (.ref d), .val (.int (0 : Int32)), .val (.int (1 : Int32)), .val (.int x)] [(.int (1 : Int32)), (.int (0 : Int32)), (.int (Int32.ofNat cp))])) rfl (by rw [hml]; rfl) (argsL := [(.int (Int32.ofNat cp)), (.int (0 : Int32)), (.int (1 : Int32))]) (rest := []) (lenOf pd_5 rfl) rfl (by show 2 * 0 + _ ≤ _; exact Nat.le_of_eq rfl) (hb hby d5_4) (fun _ _ => ⟨rfl, e0, (by decide : 0 + 0 ≤ _), (by decide : 0 + 0 ≤ _)⟩)
  dsimp only [Pt.U, Pt.locs, Pt.cells, Pt.slots] at X1 l1 y1 z1 st1 hQ1
  subst l1 y1 z1
  obtain ⟨rfl, N1q, e1⟩ := hQ1
  have N := Fr.app N N1q
  refine OwnGo.fwd st1 ?_
  show OwnGo _ _ _ _ (T1.setTop (mkF m 7 #[.val (.ref d), .val (.int (0 : Int32)), .val (.int (1 : Int32)), .val (.int x)] []))
  refine OwnGo.fwd (fun tq' kq' => XS.aloadN X1.here hx rfl (hb hby d5_7) rfl rfl kq') ?_
  show OwnGo _ _ _ _ (T1.setTop (mkF m 8 #[.val (.ref d), .val (.int (0 : Int32)), .val (.int (1 : Int32)), .val (.int x)] [(.ref d)]))
  refine OwnGo.fwd (fun tq' kq' => XS.iloadN X1.here hx rfl (hb hby d5_8) rfl kq') ?_
  show OwnGo _ _ _ _ (T1.setTop (mkF m 9 #[.val (.ref d), .val (.int (0 : Int32)), .val (.int (1 : Int32)), .val (.int x)] [(.int (0 : Int32)), (.ref d)]))
  refine OwnGo.fwd (fun tq' kq' => XS.iloadN X1.here hx rfl (hb hby d5_9) rfl kq') ?_
  show OwnGo _ _ _ _ (T1.setTop (mkF m 10 #[.val (.ref d), .val (.int (0 : Int32)), .val (.int (1 : Int32)), .val (.int x)] [(.int (1 : Int32)), (.int (0 : Int32)), (.ref d)]))
  refine OwnGo.fwd (fun tq' kq' => XS.iloadN X1.here hx rfl (hb hby d5_10) rfl kq') ?_
  show OwnGo _ _ _ _ (T1.setTop (mkF m 11 #[.val (.ref d), .val (.int (0 : Int32)), .val (.int (1 : Int32)), .val (.int x)] [(.int x), (.int (1 : Int32)), (.int (0 : Int32)), (.ref d)]))
  obtain ⟨_, _, ⟨T2, L2, k2, n2⟩, -, X2, ⟨Lc2, hQ2, l2, y2, z2⟩, st2⟩ := Jvm.LawKit.callS X1 hx (y := (⟨"java/util/Arrays", "binarySearch0", "([IIII)I"⟩ : MethodName)) hown (mvT hZ (hw _ (List.mem_of_getElem? (i := 33) rfl))) (mvT hZ (hw _ (List.mem_of_getElem? (i := 34) rfl))) (mvT hZ (hw _ (List.mem_of_getElem? (i := 28) rfl))) (mvT hZ (hw _ (List.mem_of_getElem? (i := 35) rfl))) (by decide) (backOf (W := 0) (rm7n1 l Z a0 hw [] d cp f x h0 n0 Zs V_d hn) hZ (hw _ (List.mem_of_getElem? (i := 35) rfl)) (hw _ (List.mem_of_getElem? (i := 28) rfl)) (by decide) (by decide)) (g := (mkF m 11 #[.val (.ref d), .val (.int (0 : Int32)), .val (.int (1 : Int32)), .val (.int x)] [(.int x), (.int (1 : Int32)), (.int (0 : Int32)), (.ref d)])) rfl (by rw [hml]; rfl) (argsL := [(.ref d), (.int (0 : Int32)), (.int (1 : Int32)), (.int x)]) (rest := []) (lenOf pd_4 rfl) rfl (by show 2 * 0 + _ ≤ _; exact Nat.le_of_eq rfl) (hb hby d5_11) (fun _ _ => ⟨rfl, e1, (by decide : 0 + 0 ≤ _), (by decide : 0 + 0 ≤ _)⟩)
  dsimp only [Pt.U, Pt.locs, Pt.cells, Pt.slots] at X2 l2 y2 z2 st2 hQ2
  subst l2 y2 z2
  obtain ⟨N2q, e2, z2, rfl, hb2⟩ := hQ2
  have N := Fr.app N N2q
  refine OwnGo.fwd st2 ?_
  show OwnGo _ _ _ _ (T2.setTop (mkF m 14 #[.val (.ref d), .val (.int (0 : Int32)), .val (.int (1 : Int32)), .val (.int x)] [(.int z2)]))
  exact own_retI X2 hlk hx Bd.returns (hb hby d5_14) (by decide) (by decide) e2 ⟨N, rfl, _, rfl, hb2⟩
theorem ef_4n1 (m : MethodId) (x0 : Addr) (x1 : Int32) : entryFrame m #[(.ref x0), (.int x1)] 3 = mkF m 0 #[.val (.ref x0), .val (.int x1), .unset] [] := by first | (simp [entryFrame, mkF, argsToLocals, Value.category, maxLocals]; done) | rfl
def Q4n1 (Z : State) (a : Addr) (da : Addr) (fa : Addr) (t : Int64) (cp : Nat) (f : Nat → Int32) (g : Nat → Int32) (x : Int32) (h0 : Heap) (n0 : Nat) (v : Option Value) (h : Heap) (L : List Loc) : Prop := Fr n0 L ∧ h = h0 ∧ ∃ r, v = some (.int r) ∧ own_fi 1 f g x r
set_option maxRecDepth 65536 in
set_option maxHeartbeats 40000000 in
theorem rm4n1 (l : Launch) (Z : State) (a0 : Array Value) (hw : ∀ d ∈ tables_1, d.before a0 Z = true) (ws : List Jvm.Cond) (a : Addr) (da : Addr) (fa : Addr) (t : Int64) (cp : Nat) (f : Nat → Int32) (g : Nat → Int32) (x : Int32) (h0 : Heap) (n0 : Nat) (Z0 : n0 ≤ h0.size) (HA : own_P Z h0 n0 a da fa 1 t cp f g) (hn : 1 ≤ cp) :
    MetFree l (⟨"com/example/inverse_frequency/inversefrequency/Postings", "frequencyIn", "(I)I"⟩ : MethodName) (head1 (Jvm.Cond.code (⟨"com/example/inverse_frequency/inversefrequency/Postings", "frequencyIn", "(I)I"⟩ : MethodName) prog_33_method_8_code 3 (some .int) :: ws) ({ frames := 2, cells := 0, slots := 0, locals := 40 } : Room)) (fun arr' U => arr' = #[(.ref a), (.int x)] ∧ Z.Warmed39 U.vm ∧ U.heap = h0) (fun _ _ _ _ _ => True) (fun _ U o U' => ∃ v L, o = .returned v ∧ (Q4n1 Z a da fa t cp f g x h0 n0) v U'.heap L ∧ FrameEnd U o U' L ({ frames := 2, cells := 0, slots := 0, locals := 40 } : Room).cells ({ frames := 2, cells := 0, slots := 0, locals := 40 } : Room).slots) := by
  refine MetFree.of_bodySF pn_4 hisR ?_
  intro p e s m args below meth c s₁ Bd hml0 hP hK
  obtain ⟨rfl, hZ, hh⟩ := hP
  have hx := Bd.exec
  have hby := Bd.bytes
  have hlk : meth.locks = false := BodyLoose.notSynchronized Bd
  have hml : c.maxLocals = 3 := hml0
  have hown : s.vm.findClass "com/example/inverse_frequency/inversefrequency/Postings" = some m.cls := findClass_of_methodNamed Bd.named
  have hnm := (name_of_methodNamed Bd.named Bd.method).1
  have X0 : Stand p l e ({ frames := 2, cells := 0, slots := 0, locals := 40 } : Room) s m #[(.ref a), (.int x)] below meth c s₁ [] 0 0 := Stand.of_body Bd
  have e0 : s₁.heap = h0 := by rw [← hh, Bd.state]; rfl
  have N := Fr.nil n0
  have Zs := Z0
  change OwnGo p.tables e below (OwnEnd s (Q4n1 Z a da fa t cp f g x h0 n0) ({ frames := 2, cells := 0, slots := 0, locals := 40 } : Room).cells ({ frames := 2, cells := 0, slots := 0, locals := 40 } : Room).slots) _
  refine OwnGo.fwd (fun tq' kq' => castTop (ef_4n1 m a x) kq') ?_
  show OwnGo _ _ _ _ (s₁.setTop (mkF m 0 #[.val (.ref a), .val (.int x), .unset] []))
  obtain ⟨E_a, F_documents_a, F_frequencies_a, F_size_a, F_totalFrequency_a, V_da, V_fa, ne_a_da, ne_a_fa, ne_da_fa, g_a, g_da, g_fa⟩ := HA
  refine OwnGo.fwd (fun tq' kq' => XS.aloadN X0.here hx rfl (hb hby d4_0) rfl rfl kq') ?_
  show OwnGo _ _ _ _ (s₁.setTop (mkF m 1 #[.val (.ref a), .val (.int x), .unset] [(.ref a)]))
  obtain ⟨T1, X1, e1, st1⟩ := getF X0 hx hZ hown (host := "") (Or.inl (hw _ (List.mem_of_getElem? (i := 15) rfl))) Via.refl e0 F_documents_a (g := (mkF m 1 #[.val (.ref a), .val (.int x), .unset] [(.ref a)])) rfl rfl (hb hby d4_1)
  refine OwnGo.fwd st1 ?_
  show OwnGo _ _ _ _ (T1.setTop (mkF m 4 #[.val (.ref a), .val (.int x), .unset] [(.ref da)]))
  refine OwnGo.fwd (fun tq' kq' => XS.iconst X1.here hx rfl (hb hby d4_4) kq') ?_
  show OwnGo _ _ _ _ (T1.setTop (mkF m 5 #[.val (.ref a), .val (.int x), .unset] [(.int (0 : Int32)), (.ref da)]))
  refine OwnGo.fwd (fun tq' kq' => XS.aloadN X1.here hx rfl (hb hby d4_5) rfl rfl kq') ?_
  show OwnGo _ _ _ _ (T1.setTop (mkF m 6 #[.val (.ref a), .val (.int x), .unset] [(.ref a), (.int (0 : Int32)), (.ref da)]))
  obtain ⟨T2, X2, e2, st2⟩ := getF X1 hx hZ hown (host := "") (Or.inl (hw _ (List.mem_of_getElem? (i := 24) rfl))) Via.refl e1 F_size_a (g := (mkF m 6 #[.val (.ref a), .val (.int x), .unset] [(.ref a), (.int (0 : Int32)), (.ref da)])) rfl rfl (hb hby d4_6)
  refine OwnGo.fwd st2 ?_
  show OwnGo _ _ _ _ (T2.setTop (mkF m 9 #[.val (.ref a), .val (.int x), .unset] [(.int (Int32.ofNat 1)), (.int (0 : Int32)), (.ref da)]))
  refine OwnGo.fwd (fun tq' kq' => XS.iloadN X2.here hx rfl (hb hby d4_9) rfl kq') ?_
  show OwnGo _ _ _ _ (T2.setTop (mkF m 10 #[.val (.ref a), .val (.int x), .unset] [(.int x), (.int (Int32.ofNat 1)), (.int (0 : Int32)), (.ref da)]))
  obtain ⟨_, _, ⟨T3, L3, k3, n3⟩, -, X3, ⟨Lc3, hQ3, l3, y3, z3⟩, st3⟩ := Jvm.LawKit.callS X2 hx (y := (⟨"java/util/Arrays", "binarySearch", "([IIII)I"⟩ : MethodName)) hown (mvT hZ (hw _ (List.mem_of_getElem? (i := 26) rfl))) (mvT hZ (hw _ (List.mem_of_getElem? (i := 27) rfl))) (mvT hZ (hw _ (List.mem_of_getElem? (i := 28) rfl))) (mvT hZ (hw _ (List.mem_of_getElem? (i := 29) rfl))) (by decide) (backOf (W := 0) (rm5n1 l Z a0 hw [] da cp f x h0 n0 Zs V_da hn) hZ (hw _ (List.mem_of_getElem? (i := 29) rfl)) (hw _ (List.mem_of_getElem? (i := 28) rfl)) (by decide) (by decide)) (g := (mkF m 10 #[.val (.ref a), .val (.int x), .unset] [(.int x), (.int (Int32.ofNat 1)), (.int (0 : Int32)), (.ref da)])) rfl (by rw [hml]; rfl) (argsL := [(.ref da), (.int (0 : Int32)), (.int (Int32.ofNat 1)), (.int x)]) (rest := []) (lenOf pd_4 rfl) rfl (by show 2 * 0 + _ ≤ _; exact Nat.le_of_eq rfl) (hb hby d4_10) (fun _ _ => ⟨rfl, e2, (by decide : 0 + 0 ≤ _), (by decide : 0 + 0 ≤ _)⟩)
  dsimp only [Pt.U, Pt.locs, Pt.cells, Pt.slots] at X3 l3 y3 z3 st3 hQ3
  subst l3 y3 z3
  obtain ⟨N3q, e3, z3, rfl, hb3⟩ := hQ3
  have N := Fr.app N N3q
  refine OwnGo.fwd st3 ?_
  show OwnGo _ _ _ _ (T3.setTop (mkF m 13 #[.val (.ref a), .val (.int x), .unset] [(.int z3)]))
  refine OwnGo.fwd (fun tq' kq' => XS.istoreN X3.here hx rfl (hb hby d4_13) rfl (l' := #[.val (.ref a), .val (.int x), .val (.int z3)]) rfl kq') ?_
  show OwnGo _ _ _ _ (T3.setTop (mkF m 14 #[.val (.ref a), .val (.int x), .val (.int z3)] []))
  refine OwnGo.fwd (fun tq' kq' => XS.iloadN X3.here hx rfl (hb hby d4_14) rfl kq') ?_
  show OwnGo _ _ _ _ (T3.setTop (mkF m 15 #[.val (.ref a), .val (.int x), .val (.int z3)] [(.int z3)]))
  by_cases hc15_4 : z3.toInt < 0
  · refine OwnGo.fwd (fun tq' kq' => XS.ifNo X3.here hx rfl (hb hby d4_15) rfl ((if0 _ _).trans (own_blt rfl (by decide) hc15_4).2.1) kq') ?_
    show OwnGo _ _ _ _ (T3.setTop (mkF m 18 #[.val (.ref a), .val (.int x), .val (.int z3)] []))
    refine OwnGo.fwd (fun tq' kq' => XS.iconst X3.here hx rfl (hb hby d4_18) kq') ?_
    show OwnGo _ _ _ _ (T3.setTop (mkF m 19 #[.val (.ref a), .val (.int x), .val (.int z3)] [(.int (0 : Int32))]))
    refine OwnGo.fwd (fun tq' kq' => XS.goto X3.here hx rfl (pc0 := 19) (pc' := 28) rfl (hb hby d4_19) (by decide) (by decide) kq') ?_
    show OwnGo _ _ _ _ (T3.setTop (mkF m 28 #[.val (.ref a), .val (.int x), .val (.int z3)] [(.int (0 : Int32))]))
    exact own_retI X3 hlk hx Bd.returns (hb hby d4_28) (by decide) (by decide) e3 ⟨N, rfl, _, rfl, Or.inr ⟨(hb3.resolve_left (fun ⟨i, hi, hz, _⟩ => by omega)).2, rfl⟩⟩
  · refine OwnGo.fwd (fun tq' kq' => XS.ifYes X3.here hx rfl (pc0 := 15) (pc' := 22) rfl (hb hby d4_15) rfl ((if0 _ _).trans (own_bnlt rfl (by decide) hc15_4).2.1) (by decide) (by decide) kq') ?_
    show OwnGo _ _ _ _ (T3.setTop (mkF m 22 #[.val (.ref a), .val (.int x), .val (.int z3)] []))
    obtain ⟨i, hi, hz, hfi⟩ := hb3.resolve_right (fun q => hc15_4 q.1)
    refine OwnGo.fwd (fun tq' kq' => XS.aloadN X3.here hx rfl (hb hby d4_22) rfl rfl kq') ?_
    show OwnGo _ _ _ _ (T3.setTop (mkF m 23 #[.val (.ref a), .val (.int x), .val (.int z3)] [(.ref a)]))
    obtain ⟨T5, X5, e5, st5⟩ := getF X3 hx hZ hown (host := "") (Or.inl (hw _ (List.mem_of_getElem? (i := 17) rfl))) Via.refl e3 F_frequencies_a (g := (mkF m 23 #[.val (.ref a), .val (.int x), .val (.int z3)] [(.ref a)])) rfl rfl (hb hby d4_23)
    refine OwnGo.fwd st5 ?_
    show OwnGo _ _ _ _ (T5.setTop (mkF m 26 #[.val (.ref a), .val (.int x), .val (.int z3)] [(.ref fa)]))
    refine OwnGo.fwd (fun tq' kq' => XS.iloadN X5.here hx rfl (hb hby d4_26) rfl kq') ?_
    show OwnGo _ _ _ _ (T5.setTop (mkF m 27 #[.val (.ref a), .val (.int x), .val (.int z3)] [(.int z3), (.ref fa)]))
    refine OwnGo.fwd (fun tq' kq' => own_iaload X5 hx hZ e5 V_fa (i := i) hz (by omega) (g := (mkF m 27 #[.val (.ref a), .val (.int x), .val (.int z3)] [(.int z3), (.ref fa)])) rfl rfl (hb hby d4_27) tq' kq') ?_
    show OwnGo _ _ _ _ (T5.setTop (mkF m 28 #[.val (.ref a), .val (.int x), .val (.int z3)] [(.int (g i))]))
    exact own_retI X5 hlk hx Bd.returns (hb hby d4_28) (by decide) (by decide) e5 ⟨N, rfl, _, rfl, Or.inl ⟨i, hi, hfi, rfl⟩⟩
theorem ef_7n2 (m : MethodId) (x0 : Addr) (x1 : Int32) (x2 : Int32) (x3 : Int32) : entryFrame m #[(.ref x0), (.int x1), (.int x2), (.int x3)] 8 = mkF m 0 #[.val (.ref x0), .val (.int x1), .val (.int x2), .val (.int x3), .unset, .unset, .unset, .unset] [] := by first | (simp [entryFrame, mkF, argsToLocals, Value.category, maxLocals]; done) | rfl
def Q7n2 (Z : State) (d : Addr) (cp : Nat) (f : Nat → Int32) (x : Int32) (h0 : Heap) (n0 : Nat) (v : Option Value) (h : Heap) (L : List Loc) : Prop := Fr n0 L ∧ h = h0 ∧ ∃ z, v = some (.int z) ∧ own_bs 2 f x z
set_option maxRecDepth 65536 in
set_option maxHeartbeats 40000000 in
theorem rm7n2 (l : Launch) (Z : State) (a0 : Array Value) (hw : ∀ d ∈ tables_1, d.before a0 Z = true) (ws : List Jvm.Cond) (d : Addr) (cp : Nat) (f : Nat → Int32) (x : Int32) (h0 : Heap) (n0 : Nat) (Z0 : n0 ≤ h0.size) (V_d : OwnIA Z h0 d cp f) (hn : 2 ≤ cp) (hs0 : (f 0).toInt < (f 1).toInt) :
    MetFree l (⟨"java/util/Arrays", "binarySearch0", "([IIII)I"⟩ : MethodName) (head1 (Jvm.Cond.code (⟨"java/util/Arrays", "binarySearch0", "([IIII)I"⟩ : MethodName) jdk_65_method_59_code 8 (some .int) :: ws) ({ frames := 0, cells := 0, slots := 0, locals := 0 } : Room)) (fun arr' U => arr' = #[(.ref d), (.int (0 : Int32)), (.int (2 : Int32)), (.int x)] ∧ Z.Warmed39 U.vm ∧ U.heap = h0) (fun _ _ _ _ _ => True) (fun _ U o U' => ∃ v L, o = .returned v ∧ (Q7n2 Z d cp f x h0 n0) v U'.heap L ∧ FrameEnd U o U' L ({ frames := 0, cells := 0, slots := 0, locals := 0 } : Room).cells ({ frames := 0, cells := 0, slots := 0, locals := 0 } : Room).slots) := by
  refine MetFree.of_bodySF pn_7 hisR ?_
  intro p e s m args below meth c s₁ Bd hml0 hP hK
  obtain ⟨rfl, hZ, hh⟩ := hP
  have hx := Bd.exec
  have hby := Bd.bytes
  have hlk : meth.locks = false := BodyLoose.notSynchronized Bd
  have hml : c.maxLocals = 8 := hml0
  have hown : s.vm.findClass "java/util/Arrays" = some m.cls := findClass_of_methodNamed Bd.named
  have hnm := (name_of_methodNamed Bd.named Bd.method).1
  have X0 : Stand p l e ({ frames := 0, cells := 0, slots := 0, locals := 0 } : Room) s m #[(.ref d), (.int (0 : Int32)), (.int (2 : Int32)), (.int x)] below meth c s₁ [] 0 0 := Stand.of_body Bd
  have e0 : s₁.heap = h0 := by rw [← hh, Bd.state]; rfl
  have N := Fr.nil n0
  have Zs := Z0
  change OwnGo p.tables e below (OwnEnd s (Q7n2 Z d cp f x h0 n0) ({ frames := 0, cells := 0, slots := 0, locals := 0 } : Room).cells ({ frames := 0, cells := 0, slots := 0, locals := 0 } : Room).slots) _
  refine OwnGo.fwd (fun tq' kq' => castTop (ef_7n2 m d (0 : Int32) (2 : Int32) x) kq') ?_
  show OwnGo _ _ _ _ (s₁.setTop (mkF m 0 #[.val (.ref d), .val (.int (0 : Int32)), .val (.int (2 : Int32)), .val (.int x), .unset, .unset, .unset, .unset] []))
  refine OwnGo.fwd (fun tq' kq' => XS.iloadN X0.here hx rfl (hb hby d7_0) rfl kq') ?_
  show OwnGo _ _ _ _ (s₁.setTop (mkF m 1 #[.val (.ref d), .val (.int (0 : Int32)), .val (.int (2 : Int32)), .val (.int x), .unset, .unset, .unset, .unset] [(.int (0 : Int32))]))
  refine OwnGo.fwd (fun tq' kq' => XS.istore X0.here hx rfl (hb hby d7_1) rfl (l' := #[.val (.ref d), .val (.int (0 : Int32)), .val (.int (2 : Int32)), .val (.int x), .val (.int (0 : Int32)), .unset, .unset, .unset]) rfl kq') ?_
  show OwnGo _ _ _ _ (s₁.setTop (mkF m 3 #[.val (.ref d), .val (.int (0 : Int32)), .val (.int (2 : Int32)), .val (.int x), .val (.int (0 : Int32)), .unset, .unset, .unset] []))
  refine OwnGo.fwd (fun tq' kq' => XS.iloadN X0.here hx rfl (hb hby d7_3) rfl kq') ?_
  show OwnGo _ _ _ _ (s₁.setTop (mkF m 4 #[.val (.ref d), .val (.int (0 : Int32)), .val (.int (2 : Int32)), .val (.int x), .val (.int (0 : Int32)), .unset, .unset, .unset] [(.int (2 : Int32))]))
  refine OwnGo.fwd (fun tq' kq' => XS.iconst X0.here hx rfl (hb hby d7_4) kq') ?_
  show OwnGo _ _ _ _ (s₁.setTop (mkF m 5 #[.val (.ref d), .val (.int (0 : Int32)), .val (.int (2 : Int32)), .val (.int x), .val (.int (0 : Int32)), .unset, .unset, .unset] [(.int (1 : Int32)), (.int (2 : Int32))]))
  refine OwnGo.fwd (fun tq' kq' => XS.isub X0.here hx rfl (hb hby d7_5) rfl kq') ?_
  show OwnGo _ _ _ _ (s₁.setTop (mkF m 6 #[.val (.ref d), .val (.int (0 : Int32)), .val (.int (2 : Int32)), .val (.int x), .val (.int (0 : Int32)), .unset, .unset, .unset] [(.int (1 : Int32))]))
  refine OwnGo.fwd (fun tq' kq' => XS.istore X0.here hx rfl (hb hby d7_6) rfl (l' := #[.val (.ref d), .val (.int (0 : Int32)), .val (.int (2 : Int32)), .val (.int x), .val (.int (0 : Int32)), .val (.int (1 : Int32)), .unset, .unset]) rfl kq') ?_
  show OwnGo _ _ _ _ (s₁.setTop (mkF m 8 #[.val (.ref d), .val (.int (0 : Int32)), .val (.int (2 : Int32)), .val (.int x), .val (.int (0 : Int32)), .val (.int (1 : Int32)), .unset, .unset] []))
  refine OwnGo.fwd (fun tq' kq' => XS.iload X0.here hx rfl (hb hby d7_8) rfl kq') ?_
  show OwnGo _ _ _ _ (s₁.setTop (mkF m 10 #[.val (.ref d), .val (.int (0 : Int32)), .val (.int (2 : Int32)), .val (.int x), .val (.int (0 : Int32)), .val (.int (1 : Int32)), .unset, .unset] [(.int (0 : Int32))]))
  refine OwnGo.fwd (fun tq' kq' => XS.iload X0.here hx rfl (hb hby d7_10) rfl kq') ?_
  show OwnGo _ _ _ _ (s₁.setTop (mkF m 12 #[.val (.ref d), .val (.int (0 : Int32)), .val (.int (2 : Int32)), .val (.int x), .val (.int (0 : Int32)), .val (.int (1 : Int32)), .unset, .unset] [(.int (1 : Int32)), (.int (0 : Int32))]))
  have hc12_1 : ¬ ((1 : Int) < (0 : Int)) := by decide
  refine OwnGo.fwd (fun tq' kq' => XS.icmpNo X0.here hx rfl (hb hby d7_12) rfl (own_bnlt (by decide) (by decide) hc12_1).2.2.1 kq') ?_
  show OwnGo _ _ _ _ (s₁.setTop (mkF m 15 #[.val (.ref d), .val (.int (0 : Int32)), .val (.int (2 : Int32)), .val (.int x), .val (.int (0 : Int32)), .val (.int (1 : Int32)), .unset, .unset] []))
  refine OwnGo.fwd (fun tq' kq' => XS.iload X0.here hx rfl (hb hby d7_15) rfl kq') ?_
  show OwnGo _ _ _ _ (s₁.setTop (mkF m 17 #[.val (.ref d), .val (.int (0 : Int32)), .val (.int (2 : Int32)), .val (.int x), .val (.int (0 : Int32)), .val (.int (1 : Int32)), .unset, .unset] [(.int (0 : Int32))]))
  refine OwnGo.fwd (fun tq' kq' => XS.iload X0.here hx rfl (hb hby d7_17) rfl kq') ?_
  show OwnGo _ _ _ _ (s₁.setTop (mkF m 19 #[.val (.ref d), .val (.int (0 : Int32)), .val (.int (2 : Int32)), .val (.int x), .val (.int (0 : Int32)), .val (.int (1 : Int32)), .unset, .unset] [(.int (1 : Int32)), (.int (0 : Int32))]))
  refine OwnGo.fwd (fun tq' kq' => XS.iadd X0.here hx rfl (hb hby d7_19) rfl kq') ?_
  show OwnGo _ _ _ _ (s₁.setTop (mkF m 20 #[.val (.ref d), .val (.int (0 : Int32)), .val (.int (2 : Int32)), .val (.int x), .val (.int (0 : Int32)), .val (.int (1 : Int32)), .unset, .unset] [(.int (1 : Int32))]))
  refine OwnGo.fwd (fun tq' kq' => XS.iconst X0.here hx rfl (hb hby d7_20) kq') ?_
  show OwnGo _ _ _ _ (s₁.setTop (mkF m 21 #[.val (.ref d), .val (.int (0 : Int32)), .val (.int (2 : Int32)), .val (.int x), .val (.int (0 : Int32)), .val (.int (1 : Int32)), .unset, .unset] [(.int (1 : Int32)), (.int (1 : Int32))]))
  refine OwnGo.fwd (fun tq' kq' => XS.iushr X0.here hx rfl (hb hby d7_21) rfl kq') ?_
  show OwnGo _ _ _ _ (s₁.setTop (mkF m 22 #[.val (.ref d), .val (.int (0 : Int32)), .val (.int (2 : Int32)), .val (.int x), .val (.int (0 : Int32)), .val (.int (1 : Int32)), .unset, .unset] [(.int (0 : Int32))]))
  refine OwnGo.fwd (fun tq' kq' => XS.istore X0.here hx rfl (hb hby d7_22) rfl (l' := #[.val (.ref d), .val (.int (0 : Int32)), .val (.int (2 : Int32)), .val (.int x), .val (.int (0 : Int32)), .val (.int (1 : Int32)), .val (.int (0 : Int32)), .unset]) rfl kq') ?_
  show OwnGo _ _ _ _ (s₁.setTop (mkF m 24 #[.val (.ref d), .val (.int (0 : Int32)), .val (.int (2 : Int32)), .val (.int x), .val (.int (0 : Int32)), .val (.int (1 : Int32)), .val (.int (0 : Int32)), .unset] []))
  refine OwnGo.fwd (fun tq' kq' => XS.aloadN X0.here hx rfl (hb hby d7_24) rfl rfl kq') ?_
  show OwnGo _ _ _ _ (s₁.setTop (mkF m 25 #[.val (.ref d), .val (.int (0 : Int32)), .val (.int (2 : Int32)), .val (.int x), .val (.int (0 : Int32)), .val (.int (1 : Int32)), .val (.int (0 : Int32)), .unset] [(.ref d)]))
  refine OwnGo.fwd (fun tq' kq' => XS.iload X0.here hx rfl (hb hby d7_25) rfl kq') ?_
  show OwnGo _ _ _ _ (s₁.setTop (mkF m 27 #[.val (.ref d), .val (.int (0 : Int32)), .val (.int (2 : Int32)), .val (.int x), .val (.int (0 : Int32)), .val (.int (1 : Int32)), .val (.int (0 : Int32)), .unset] [(.int (0 : Int32)), (.ref d)]))
  refine OwnGo.fwd (fun tq' kq' => own_iaload X0 hx hZ e0 V_d (i := 0) (by decide) (by omega) (g := (mkF m 27 #[.val (.ref d), .val (.int (0 : Int32)), .val (.int (2 : Int32)), .val (.int x), .val (.int (0 : Int32)), .val (.int (1 : Int32)), .val (.int (0 : Int32)), .unset] [(.int (0 : Int32)), (.ref d)])) rfl rfl (hb hby d7_27) tq' kq') ?_
  show OwnGo _ _ _ _ (s₁.setTop (mkF m 28 #[.val (.ref d), .val (.int (0 : Int32)), .val (.int (2 : Int32)), .val (.int x), .val (.int (0 : Int32)), .val (.int (1 : Int32)), .val (.int (0 : Int32)), .unset] [(.int (f 0))]))
  refine OwnGo.fwd (fun tq' kq' => XS.istore X0.here hx rfl (hb hby d7_28) rfl (l' := #[.val (.ref d), .val (.int (0 : Int32)), .val (.int (2 : Int32)), .val (.int x), .val (.int (0 : Int32)), .val (.int (1 : Int32)), .val (.int (0 : Int32)), .val (.int (f 0))]) rfl kq') ?_
  show OwnGo _ _ _ _ (s₁.setTop (mkF m 30 #[.val (.ref d), .val (.int (0 : Int32)), .val (.int (2 : Int32)), .val (.int x), .val (.int (0 : Int32)), .val (.int (1 : Int32)), .val (.int (0 : Int32)), .val (.int (f 0))] []))
  refine OwnGo.fwd (fun tq' kq' => XS.iload X0.here hx rfl (hb hby d7_30) rfl kq') ?_
  show OwnGo _ _ _ _ (s₁.setTop (mkF m 32 #[.val (.ref d), .val (.int (0 : Int32)), .val (.int (2 : Int32)), .val (.int x), .val (.int (0 : Int32)), .val (.int (1 : Int32)), .val (.int (0 : Int32)), .val (.int (f 0))] [(.int (f 0))]))
  refine OwnGo.fwd (fun tq' kq' => XS.iloadN X0.here hx rfl (hb hby d7_32) rfl kq') ?_
  show OwnGo _ _ _ _ (s₁.setTop (mkF m 33 #[.val (.ref d), .val (.int (0 : Int32)), .val (.int (2 : Int32)), .val (.int x), .val (.int (0 : Int32)), .val (.int (1 : Int32)), .val (.int (0 : Int32)), .val (.int (f 0))] [(.int x), (.int (f 0))]))
  by_cases hc33_2 : (f 0).toInt < x.toInt
  · refine OwnGo.fwd (fun tq' kq' => XS.icmpNo X0.here hx rfl (hb hby d7_33) rfl (own_blt rfl rfl hc33_2).2.1 kq') ?_
    show OwnGo _ _ _ _ (s₁.setTop (mkF m 36 #[.val (.ref d), .val (.int (0 : Int32)), .val (.int (2 : Int32)), .val (.int x), .val (.int (0 : Int32)), .val (.int (1 : Int32)), .val (.int (0 : Int32)), .val (.int (f 0))] []))
    refine OwnGo.fwd (fun tq' kq' => XS.iload X0.here hx rfl (hb hby d7_36) rfl kq') ?_
    show OwnGo _ _ _ _ (s₁.setTop (mkF m 38 #[.val (.ref d), .val (.int (0 : Int32)), .val (.int (2 : Int32)), .val (.int x), .val (.int (0 : Int32)), .val (.int (1 : Int32)), .val (.int (0 : Int32)), .val (.int (f 0))] [(.int (0 : Int32))]))
    refine OwnGo.fwd (fun tq' kq' => XS.iconst X0.here hx rfl (hb hby d7_38) kq') ?_
    show OwnGo _ _ _ _ (s₁.setTop (mkF m 39 #[.val (.ref d), .val (.int (0 : Int32)), .val (.int (2 : Int32)), .val (.int x), .val (.int (0 : Int32)), .val (.int (1 : Int32)), .val (.int (0 : Int32)), .val (.int (f 0))] [(.int (1 : Int32)), (.int (0 : Int32))]))
    refine OwnGo.fwd (fun tq' kq' => XS.iadd X0.here hx rfl (hb hby d7_39) rfl kq') ?_
    show OwnGo _ _ _ _ (s₁.setTop (mkF m 40 #[.val (.ref d), .val (.int (0 : Int32)), .val (.int (2 : Int32)), .val (.int x), .val (.int (0 : Int32)), .val (.int (1 : Int32)), .val (.int (0 : Int32)), .val (.int (f 0))] [(.int (1 : Int32))]))
    refine OwnGo.fwd (fun tq' kq' => XS.istore X0.here hx rfl (hb hby d7_40) rfl (l' := #[.val (.ref d), .val (.int (0 : Int32)), .val (.int (2 : Int32)), .val (.int x), .val (.int (1 : Int32)), .val (.int (1 : Int32)), .val (.int (0 : Int32)), .val (.int (f 0))]) rfl kq') ?_
    show OwnGo _ _ _ _ (s₁.setTop (mkF m 42 #[.val (.ref d), .val (.int (0 : Int32)), .val (.int (2 : Int32)), .val (.int x), .val (.int (1 : Int32)), .val (.int (1 : Int32)), .val (.int (0 : Int32)), .val (.int (f 0))] []))
    refine OwnGo.fwd (fun tq' kq' => XS.goto X0.here hx rfl (pc0 := 42) (pc' := 63) rfl (hb hby d7_42) (by decide) (by decide) kq') ?_
    show OwnGo _ _ _ _ (s₁.setTop (mkF m 63 #[.val (.ref d), .val (.int (0 : Int32)), .val (.int (2 : Int32)), .val (.int x), .val (.int (1 : Int32)), .val (.int (1 : Int32)), .val (.int (0 : Int32)), .val (.int (f 0))] []))
    refine OwnGo.fwd (fun tq' kq' => XS.goto X0.here hx rfl (pc0 := 63) (pc' := 8) rfl (hb hby d7_63) (by decide) (by decide) kq') ?_
    show OwnGo _ _ _ _ (s₁.setTop (mkF m 8 #[.val (.ref d), .val (.int (0 : Int32)), .val (.int (2 : Int32)), .val (.int x), .val (.int (1 : Int32)), .val (.int (1 : Int32)), .val (.int (0 : Int32)), .val (.int (f 0))] []))
    refine OwnGo.fwd (fun tq' kq' => XS.iload X0.here hx rfl (hb hby d7_8) rfl kq') ?_
    show OwnGo _ _ _ _ (s₁.setTop (mkF m 10 #[.val (.ref d), .val (.int (0 : Int32)), .val (.int (2 : Int32)), .val (.int x), .val (.int (1 : Int32)), .val (.int (1 : Int32)), .val (.int (0 : Int32)), .val (.int (f 0))] [(.int (1 : Int32))]))
    refine OwnGo.fwd (fun tq' kq' => XS.iload X0.here hx rfl (hb hby d7_10) rfl kq') ?_
    show OwnGo _ _ _ _ (s₁.setTop (mkF m 12 #[.val (.ref d), .val (.int (0 : Int32)), .val (.int (2 : Int32)), .val (.int x), .val (.int (1 : Int32)), .val (.int (1 : Int32)), .val (.int (0 : Int32)), .val (.int (f 0))] [(.int (1 : Int32)), (.int (1 : Int32))]))
    have hc12_3 : ¬ ((1 : Int) < (1 : Int)) := by decide
    refine OwnGo.fwd (fun tq' kq' => XS.icmpNo X0.here hx rfl (hb hby d7_12) rfl (own_bnlt (by decide) (by decide) hc12_3).2.2.1 kq') ?_
    show OwnGo _ _ _ _ (s₁.setTop (mkF m 15 #[.val (.ref d), .val (.int (0 : Int32)), .val (.int (2 : Int32)), .val (.int x), .val (.int (1 : Int32)), .val (.int (1 : Int32)), .val (.int (0 : Int32)), .val (.int (f 0))] []))
    refine OwnGo.fwd (fun tq' kq' => XS.iload X0.here hx rfl (hb hby d7_15) rfl kq') ?_
    show OwnGo _ _ _ _ (s₁.setTop (mkF m 17 #[.val (.ref d), .val (.int (0 : Int32)), .val (.int (2 : Int32)), .val (.int x), .val (.int (1 : Int32)), .val (.int (1 : Int32)), .val (.int (0 : Int32)), .val (.int (f 0))] [(.int (1 : Int32))]))
    refine OwnGo.fwd (fun tq' kq' => XS.iload X0.here hx rfl (hb hby d7_17) rfl kq') ?_
    show OwnGo _ _ _ _ (s₁.setTop (mkF m 19 #[.val (.ref d), .val (.int (0 : Int32)), .val (.int (2 : Int32)), .val (.int x), .val (.int (1 : Int32)), .val (.int (1 : Int32)), .val (.int (0 : Int32)), .val (.int (f 0))] [(.int (1 : Int32)), (.int (1 : Int32))]))
    refine OwnGo.fwd (fun tq' kq' => XS.iadd X0.here hx rfl (hb hby d7_19) rfl kq') ?_
    show OwnGo _ _ _ _ (s₁.setTop (mkF m 20 #[.val (.ref d), .val (.int (0 : Int32)), .val (.int (2 : Int32)), .val (.int x), .val (.int (1 : Int32)), .val (.int (1 : Int32)), .val (.int (0 : Int32)), .val (.int (f 0))] [(.int (2 : Int32))]))
    refine OwnGo.fwd (fun tq' kq' => XS.iconst X0.here hx rfl (hb hby d7_20) kq') ?_
    show OwnGo _ _ _ _ (s₁.setTop (mkF m 21 #[.val (.ref d), .val (.int (0 : Int32)), .val (.int (2 : Int32)), .val (.int x), .val (.int (1 : Int32)), .val (.int (1 : Int32)), .val (.int (0 : Int32)), .val (.int (f 0))] [(.int (1 : Int32)), (.int (2 : Int32))]))
    refine OwnGo.fwd (fun tq' kq' => XS.iushr X0.here hx rfl (hb hby d7_21) rfl kq') ?_
    show OwnGo _ _ _ _ (s₁.setTop (mkF m 22 #[.val (.ref d), .val (.int (0 : Int32)), .val (.int (2 : Int32)), .val (.int x), .val (.int (1 : Int32)), .val (.int (1 : Int32)), .val (.int (0 : Int32)), .val (.int (f 0))] [(.int (1 : Int32))]))
    refine OwnGo.fwd (fun tq' kq' => XS.istore X0.here hx rfl (hb hby d7_22) rfl (l' := #[.val (.ref d), .val (.int (0 : Int32)), .val (.int (2 : Int32)), .val (.int x), .val (.int (1 : Int32)), .val (.int (1 : Int32)), .val (.int (1 : Int32)), .val (.int (f 0))]) rfl kq') ?_
    show OwnGo _ _ _ _ (s₁.setTop (mkF m 24 #[.val (.ref d), .val (.int (0 : Int32)), .val (.int (2 : Int32)), .val (.int x), .val (.int (1 : Int32)), .val (.int (1 : Int32)), .val (.int (1 : Int32)), .val (.int (f 0))] []))
    refine OwnGo.fwd (fun tq' kq' => XS.aloadN X0.here hx rfl (hb hby d7_24) rfl rfl kq') ?_
    show OwnGo _ _ _ _ (s₁.setTop (mkF m 25 #[.val (.ref d), .val (.int (0 : Int32)), .val (.int (2 : Int32)), .val (.int x), .val (.int (1 : Int32)), .val (.int (1 : Int32)), .val (.int (1 : Int32)), .val (.int (f 0))] [(.ref d)]))
    refine OwnGo.fwd (fun tq' kq' => XS.iload X0.here hx rfl (hb hby d7_25) rfl kq') ?_
    show OwnGo _ _ _ _ (s₁.setTop (mkF m 27 #[.val (.ref d), .val (.int (0 : Int32)), .val (.int (2 : Int32)), .val (.int x), .val (.int (1 : Int32)), .val (.int (1 : Int32)), .val (.int (1 : Int32)), .val (.int (f 0))] [(.int (1 : Int32)), (.ref d)]))
    refine OwnGo.fwd (fun tq' kq' => own_iaload X0 hx hZ e0 V_d (i := 1) (by decide) (by omega) (g := (mkF m 27 #[.val (.ref d), .val (.int (0 : Int32)), .val (.int (2 : Int32)), .val (.int x), .val (.int (1 : Int32)), .val (.int (1 : Int32)), .val (.int (1 : Int32)), .val (.int (f 0))] [(.int (1 : Int32)), (.ref d)])) rfl rfl (hb hby d7_27) tq' kq') ?_
    show OwnGo _ _ _ _ (s₁.setTop (mkF m 28 #[.val (.ref d), .val (.int (0 : Int32)), .val (.int (2 : Int32)), .val (.int x), .val (.int (1 : Int32)), .val (.int (1 : Int32)), .val (.int (1 : Int32)), .val (.int (f 0))] [(.int (f 1))]))
    refine OwnGo.fwd (fun tq' kq' => XS.istore X0.here hx rfl (hb hby d7_28) rfl (l' := #[.val (.ref d), .val (.int (0 : Int32)), .val (.int (2 : Int32)), .val (.int x), .val (.int (1 : Int32)), .val (.int (1 : Int32)), .val (.int (1 : Int32)), .val (.int (f 1))]) rfl kq') ?_
    show OwnGo _ _ _ _ (s₁.setTop (mkF m 30 #[.val (.ref d), .val (.int (0 : Int32)), .val (.int (2 : Int32)), .val (.int x), .val (.int (1 : Int32)), .val (.int (1 : Int32)), .val (.int (1 : Int32)), .val (.int (f 1))] []))
    refine OwnGo.fwd (fun tq' kq' => XS.iload X0.here hx rfl (hb hby d7_30) rfl kq') ?_
    show OwnGo _ _ _ _ (s₁.setTop (mkF m 32 #[.val (.ref d), .val (.int (0 : Int32)), .val (.int (2 : Int32)), .val (.int x), .val (.int (1 : Int32)), .val (.int (1 : Int32)), .val (.int (1 : Int32)), .val (.int (f 1))] [(.int (f 1))]))
    refine OwnGo.fwd (fun tq' kq' => XS.iloadN X0.here hx rfl (hb hby d7_32) rfl kq') ?_
    show OwnGo _ _ _ _ (s₁.setTop (mkF m 33 #[.val (.ref d), .val (.int (0 : Int32)), .val (.int (2 : Int32)), .val (.int x), .val (.int (1 : Int32)), .val (.int (1 : Int32)), .val (.int (1 : Int32)), .val (.int (f 1))] [(.int x), (.int (f 1))]))
    by_cases hc33_4 : (f 1).toInt < x.toInt
    · refine OwnGo.fwd (fun tq' kq' => XS.icmpNo X0.here hx rfl (hb hby d7_33) rfl (own_blt rfl rfl hc33_4).2.1 kq') ?_
      show OwnGo _ _ _ _ (s₁.setTop (mkF m 36 #[.val (.ref d), .val (.int (0 : Int32)), .val (.int (2 : Int32)), .val (.int x), .val (.int (1 : Int32)), .val (.int (1 : Int32)), .val (.int (1 : Int32)), .val (.int (f 1))] []))
      refine OwnGo.fwd (fun tq' kq' => XS.iload X0.here hx rfl (hb hby d7_36) rfl kq') ?_
      show OwnGo _ _ _ _ (s₁.setTop (mkF m 38 #[.val (.ref d), .val (.int (0 : Int32)), .val (.int (2 : Int32)), .val (.int x), .val (.int (1 : Int32)), .val (.int (1 : Int32)), .val (.int (1 : Int32)), .val (.int (f 1))] [(.int (1 : Int32))]))
      refine OwnGo.fwd (fun tq' kq' => XS.iconst X0.here hx rfl (hb hby d7_38) kq') ?_
      show OwnGo _ _ _ _ (s₁.setTop (mkF m 39 #[.val (.ref d), .val (.int (0 : Int32)), .val (.int (2 : Int32)), .val (.int x), .val (.int (1 : Int32)), .val (.int (1 : Int32)), .val (.int (1 : Int32)), .val (.int (f 1))] [(.int (1 : Int32)), (.int (1 : Int32))]))
      refine OwnGo.fwd (fun tq' kq' => XS.iadd X0.here hx rfl (hb hby d7_39) rfl kq') ?_
      show OwnGo _ _ _ _ (s₁.setTop (mkF m 40 #[.val (.ref d), .val (.int (0 : Int32)), .val (.int (2 : Int32)), .val (.int x), .val (.int (1 : Int32)), .val (.int (1 : Int32)), .val (.int (1 : Int32)), .val (.int (f 1))] [(.int (2 : Int32))]))
      refine OwnGo.fwd (fun tq' kq' => XS.istore X0.here hx rfl (hb hby d7_40) rfl (l' := #[.val (.ref d), .val (.int (0 : Int32)), .val (.int (2 : Int32)), .val (.int x), .val (.int (2 : Int32)), .val (.int (1 : Int32)), .val (.int (1 : Int32)), .val (.int (f 1))]) rfl kq') ?_
      show OwnGo _ _ _ _ (s₁.setTop (mkF m 42 #[.val (.ref d), .val (.int (0 : Int32)), .val (.int (2 : Int32)), .val (.int x), .val (.int (2 : Int32)), .val (.int (1 : Int32)), .val (.int (1 : Int32)), .val (.int (f 1))] []))
      refine OwnGo.fwd (fun tq' kq' => XS.goto X0.here hx rfl (pc0 := 42) (pc' := 63) rfl (hb hby d7_42) (by decide) (by decide) kq') ?_
      show OwnGo _ _ _ _ (s₁.setTop (mkF m 63 #[.val (.ref d), .val (.int (0 : Int32)), .val (.int (2 : Int32)), .val (.int x), .val (.int (2 : Int32)), .val (.int (1 : Int32)), .val (.int (1 : Int32)), .val (.int (f 1))] []))
      refine OwnGo.fwd (fun tq' kq' => XS.goto X0.here hx rfl (pc0 := 63) (pc' := 8) rfl (hb hby d7_63) (by decide) (by decide) kq') ?_
      show OwnGo _ _ _ _ (s₁.setTop (mkF m 8 #[.val (.ref d), .val (.int (0 : Int32)), .val (.int (2 : Int32)), .val (.int x), .val (.int (2 : Int32)), .val (.int (1 : Int32)), .val (.int (1 : Int32)), .val (.int (f 1))] []))
      refine OwnGo.fwd (fun tq' kq' => XS.iload X0.here hx rfl (hb hby d7_8) rfl kq') ?_
      show OwnGo _ _ _ _ (s₁.setTop (mkF m 10 #[.val (.ref d), .val (.int (0 : Int32)), .val (.int (2 : Int32)), .val (.int x), .val (.int (2 : Int32)), .val (.int (1 : Int32)), .val (.int (1 : Int32)), .val (.int (f 1))] [(.int (2 : Int32))]))
      refine OwnGo.fwd (fun tq' kq' => XS.iload X0.here hx rfl (hb hby d7_10) rfl kq') ?_
      show OwnGo _ _ _ _ (s₁.setTop (mkF m 12 #[.val (.ref d), .val (.int (0 : Int32)), .val (.int (2 : Int32)), .val (.int x), .val (.int (2 : Int32)), .val (.int (1 : Int32)), .val (.int (1 : Int32)), .val (.int (f 1))] [(.int (1 : Int32)), (.int (2 : Int32))]))
      have hc12_5 : (1 : Int) < (2 : Int) := by decide
      refine OwnGo.fwd (fun tq' kq' => XS.icmpYes X0.here hx rfl (pc0 := 12) (pc' := 66) rfl (hb hby d7_12) rfl (own_blt (by decide) (by decide) hc12_5).2.2.1 (by decide) (by decide) kq') ?_
      show OwnGo _ _ _ _ (s₁.setTop (mkF m 66 #[.val (.ref d), .val (.int (0 : Int32)), .val (.int (2 : Int32)), .val (.int x), .val (.int (2 : Int32)), .val (.int (1 : Int32)), .val (.int (1 : Int32)), .val (.int (f 1))] []))
      refine OwnGo.fwd (fun tq' kq' => XS.iload X0.here hx rfl (hb hby d7_66) rfl kq') ?_
      show OwnGo _ _ _ _ (s₁.setTop (mkF m 68 #[.val (.ref d), .val (.int (0 : Int32)), .val (.int (2 : Int32)), .val (.int x), .val (.int (2 : Int32)), .val (.int (1 : Int32)), .val (.int (1 : Int32)), .val (.int (f 1))] [(.int (2 : Int32))]))
      refine OwnGo.fwd (fun tq' kq' => XS.iconst X0.here hx rfl (hb hby d7_68) kq') ?_
      show OwnGo _ _ _ _ (s₁.setTop (mkF m 69 #[.val (.ref d), .val (.int (0 : Int32)), .val (.int (2 : Int32)), .val (.int x), .val (.int (2 : Int32)), .val (.int (1 : Int32)), .val (.int (1 : Int32)), .val (.int (f 1))] [(.int (1 : Int32)), (.int (2 : Int32))]))
      refine OwnGo.fwd (fun tq' kq' => XS.iadd X0.here hx rfl (hb hby d7_69) rfl kq') ?_
      show OwnGo _ _ _ _ (s₁.setTop (mkF m 70 #[.val (.ref d), .val (.int (0 : Int32)), .val (.int (2 : Int32)), .val (.int x), .val (.int (2 : Int32)), .val (.int (1 : Int32)), .val (.int (1 : Int32)), .val (.int (f 1))] [(.int (3 : Int32))]))
      refine OwnGo.fwd (fun tq' kq' => XS.ineg X0.here hx rfl (hb hby d7_70) rfl kq') ?_
      show OwnGo _ _ _ _ (s₁.setTop (mkF m 71 #[.val (.ref d), .val (.int (0 : Int32)), .val (.int (2 : Int32)), .val (.int x), .val (.int (2 : Int32)), .val (.int (1 : Int32)), .val (.int (1 : Int32)), .val (.int (f 1))] [(.int (-3 : Int32))]))
      exact own_retI X0 hlk hx Bd.returns (hb hby d7_71) (by decide) (by decide) e0 ⟨N, rfl, _, rfl, Or.inr ⟨by decide, fun i hi => by
          have : i = 0 ∨ i = 1 := by omega
          rcases this with rfl | rfl <;> omega⟩⟩
    · refine OwnGo.fwd (fun tq' kq' => XS.icmpYes X0.here hx rfl (pc0 := 33) (pc' := 45) rfl (hb hby d7_33) rfl (own_bnlt rfl rfl hc33_4).2.1 (by decide) (by decide) kq') ?_
      show OwnGo _ _ _ _ (s₁.setTop (mkF m 45 #[.val (.ref d), .val (.int (0 : Int32)), .val (.int (2 : Int32)), .val (.int x), .val (.int (1 : Int32)), .val (.int (1 : Int32)), .val (.int (1 : Int32)), .val (.int (f 1))] []))
      refine OwnGo.fwd (fun tq' kq' => XS.iload X0.here hx rfl (hb hby d7_45) rfl kq') ?_
      show OwnGo _ _ _ _ (s₁.setTop (mkF m 47 #[.val (.ref d), .val (.int (0 : Int32)), .val (.int (2 : Int32)), .val (.int x), .val (.int (1 : Int32)), .val (.int (1 : Int32)), .val (.int (1 : Int32)), .val (.int (f 1))] [(.int (f 1))]))
      refine OwnGo.fwd (fun tq' kq' => XS.iloadN X0.here hx rfl (hb hby d7_47) rfl kq') ?_
      show OwnGo _ _ _ _ (s₁.setTop (mkF m 48 #[.val (.ref d), .val (.int (0 : Int32)), .val (.int (2 : Int32)), .val (.int x), .val (.int (1 : Int32)), .val (.int (1 : Int32)), .val (.int (1 : Int32)), .val (.int (f 1))] [(.int x), (.int (f 1))]))
      by_cases hc48_6 : x.toInt < (f 1).toInt
      · refine OwnGo.fwd (fun tq' kq' => XS.icmpNo X0.here hx rfl (hb hby d7_48) rfl (own_blt rfl rfl hc48_6).2.2.2 kq') ?_
        show OwnGo _ _ _ _ (s₁.setTop (mkF m 51 #[.val (.ref d), .val (.int (0 : Int32)), .val (.int (2 : Int32)), .val (.int x), .val (.int (1 : Int32)), .val (.int (1 : Int32)), .val (.int (1 : Int32)), .val (.int (f 1))] []))
        refine OwnGo.fwd (fun tq' kq' => XS.iload X0.here hx rfl (hb hby d7_51) rfl kq') ?_
        show OwnGo _ _ _ _ (s₁.setTop (mkF m 53 #[.val (.ref d), .val (.int (0 : Int32)), .val (.int (2 : Int32)), .val (.int x), .val (.int (1 : Int32)), .val (.int (1 : Int32)), .val (.int (1 : Int32)), .val (.int (f 1))] [(.int (1 : Int32))]))
        refine OwnGo.fwd (fun tq' kq' => XS.iconst X0.here hx rfl (hb hby d7_53) kq') ?_
        show OwnGo _ _ _ _ (s₁.setTop (mkF m 54 #[.val (.ref d), .val (.int (0 : Int32)), .val (.int (2 : Int32)), .val (.int x), .val (.int (1 : Int32)), .val (.int (1 : Int32)), .val (.int (1 : Int32)), .val (.int (f 1))] [(.int (1 : Int32)), (.int (1 : Int32))]))
        refine OwnGo.fwd (fun tq' kq' => XS.isub X0.here hx rfl (hb hby d7_54) rfl kq') ?_
        show OwnGo _ _ _ _ (s₁.setTop (mkF m 55 #[.val (.ref d), .val (.int (0 : Int32)), .val (.int (2 : Int32)), .val (.int x), .val (.int (1 : Int32)), .val (.int (1 : Int32)), .val (.int (1 : Int32)), .val (.int (f 1))] [(.int (0 : Int32))]))
        refine OwnGo.fwd (fun tq' kq' => XS.istore X0.here hx rfl (hb hby d7_55) rfl (l' := #[.val (.ref d), .val (.int (0 : Int32)), .val (.int (2 : Int32)), .val (.int x), .val (.int (1 : Int32)), .val (.int (0 : Int32)), .val (.int (1 : Int32)), .val (.int (f 1))]) rfl kq') ?_
        show OwnGo _ _ _ _ (s₁.setTop (mkF m 57 #[.val (.ref d), .val (.int (0 : Int32)), .val (.int (2 : Int32)), .val (.int x), .val (.int (1 : Int32)), .val (.int (0 : Int32)), .val (.int (1 : Int32)), .val (.int (f 1))] []))
        refine OwnGo.fwd (fun tq' kq' => XS.goto X0.here hx rfl (pc0 := 57) (pc' := 63) rfl (hb hby d7_57) (by decide) (by decide) kq') ?_
        show OwnGo _ _ _ _ (s₁.setTop (mkF m 63 #[.val (.ref d), .val (.int (0 : Int32)), .val (.int (2 : Int32)), .val (.int x), .val (.int (1 : Int32)), .val (.int (0 : Int32)), .val (.int (1 : Int32)), .val (.int (f 1))] []))
        refine OwnGo.fwd (fun tq' kq' => XS.goto X0.here hx rfl (pc0 := 63) (pc' := 8) rfl (hb hby d7_63) (by decide) (by decide) kq') ?_
        show OwnGo _ _ _ _ (s₁.setTop (mkF m 8 #[.val (.ref d), .val (.int (0 : Int32)), .val (.int (2 : Int32)), .val (.int x), .val (.int (1 : Int32)), .val (.int (0 : Int32)), .val (.int (1 : Int32)), .val (.int (f 1))] []))
        refine OwnGo.fwd (fun tq' kq' => XS.iload X0.here hx rfl (hb hby d7_8) rfl kq') ?_
        show OwnGo _ _ _ _ (s₁.setTop (mkF m 10 #[.val (.ref d), .val (.int (0 : Int32)), .val (.int (2 : Int32)), .val (.int x), .val (.int (1 : Int32)), .val (.int (0 : Int32)), .val (.int (1 : Int32)), .val (.int (f 1))] [(.int (1 : Int32))]))
        refine OwnGo.fwd (fun tq' kq' => XS.iload X0.here hx rfl (hb hby d7_10) rfl kq') ?_
        show OwnGo _ _ _ _ (s₁.setTop (mkF m 12 #[.val (.ref d), .val (.int (0 : Int32)), .val (.int (2 : Int32)), .val (.int x), .val (.int (1 : Int32)), .val (.int (0 : Int32)), .val (.int (1 : Int32)), .val (.int (f 1))] [(.int (0 : Int32)), (.int (1 : Int32))]))
        have hc12_7 : (0 : Int) < (1 : Int) := by decide
        refine OwnGo.fwd (fun tq' kq' => XS.icmpYes X0.here hx rfl (pc0 := 12) (pc' := 66) rfl (hb hby d7_12) rfl (own_blt (by decide) (by decide) hc12_7).2.2.1 (by decide) (by decide) kq') ?_
        show OwnGo _ _ _ _ (s₁.setTop (mkF m 66 #[.val (.ref d), .val (.int (0 : Int32)), .val (.int (2 : Int32)), .val (.int x), .val (.int (1 : Int32)), .val (.int (0 : Int32)), .val (.int (1 : Int32)), .val (.int (f 1))] []))
        refine OwnGo.fwd (fun tq' kq' => XS.iload X0.here hx rfl (hb hby d7_66) rfl kq') ?_
        show OwnGo _ _ _ _ (s₁.setTop (mkF m 68 #[.val (.ref d), .val (.int (0 : Int32)), .val (.int (2 : Int32)), .val (.int x), .val (.int (1 : Int32)), .val (.int (0 : Int32)), .val (.int (1 : Int32)), .val (.int (f 1))] [(.int (1 : Int32))]))
        refine OwnGo.fwd (fun tq' kq' => XS.iconst X0.here hx rfl (hb hby d7_68) kq') ?_
        show OwnGo _ _ _ _ (s₁.setTop (mkF m 69 #[.val (.ref d), .val (.int (0 : Int32)), .val (.int (2 : Int32)), .val (.int x), .val (.int (1 : Int32)), .val (.int (0 : Int32)), .val (.int (1 : Int32)), .val (.int (f 1))] [(.int (1 : Int32)), (.int (1 : Int32))]))
        refine OwnGo.fwd (fun tq' kq' => XS.iadd X0.here hx rfl (hb hby d7_69) rfl kq') ?_
        show OwnGo _ _ _ _ (s₁.setTop (mkF m 70 #[.val (.ref d), .val (.int (0 : Int32)), .val (.int (2 : Int32)), .val (.int x), .val (.int (1 : Int32)), .val (.int (0 : Int32)), .val (.int (1 : Int32)), .val (.int (f 1))] [(.int (2 : Int32))]))
        refine OwnGo.fwd (fun tq' kq' => XS.ineg X0.here hx rfl (hb hby d7_70) rfl kq') ?_
        show OwnGo _ _ _ _ (s₁.setTop (mkF m 71 #[.val (.ref d), .val (.int (0 : Int32)), .val (.int (2 : Int32)), .val (.int x), .val (.int (1 : Int32)), .val (.int (0 : Int32)), .val (.int (1 : Int32)), .val (.int (f 1))] [(.int (-2 : Int32))]))
        exact own_retI X0 hlk hx Bd.returns (hb hby d7_71) (by decide) (by decide) e0 ⟨N, rfl, _, rfl, Or.inr ⟨by decide, fun i hi => by
            have : i = 0 ∨ i = 1 := by omega
            rcases this with rfl | rfl <;> omega⟩⟩
      · refine OwnGo.fwd (fun tq' kq' => XS.icmpYes X0.here hx rfl (pc0 := 48) (pc' := 60) rfl (hb hby d7_48) rfl (own_bnlt rfl rfl hc48_6).2.2.2 (by decide) (by decide) kq') ?_
        show OwnGo _ _ _ _ (s₁.setTop (mkF m 60 #[.val (.ref d), .val (.int (0 : Int32)), .val (.int (2 : Int32)), .val (.int x), .val (.int (1 : Int32)), .val (.int (1 : Int32)), .val (.int (1 : Int32)), .val (.int (f 1))] []))
        refine OwnGo.fwd (fun tq' kq' => XS.iload X0.here hx rfl (hb hby d7_60) rfl kq') ?_
        show OwnGo _ _ _ _ (s₁.setTop (mkF m 62 #[.val (.ref d), .val (.int (0 : Int32)), .val (.int (2 : Int32)), .val (.int x), .val (.int (1 : Int32)), .val (.int (1 : Int32)), .val (.int (1 : Int32)), .val (.int (f 1))] [(.int (1 : Int32))]))
        exact own_retI X0 hlk hx Bd.returns (hb hby d7_62) (by decide) (by decide) e0 ⟨N, rfl, _, rfl, Or.inl ⟨1, by decide, by decide, by omega⟩⟩
  · refine OwnGo.fwd (fun tq' kq' => XS.icmpYes X0.here hx rfl (pc0 := 33) (pc' := 45) rfl (hb hby d7_33) rfl (own_bnlt rfl rfl hc33_2).2.1 (by decide) (by decide) kq') ?_
    show OwnGo _ _ _ _ (s₁.setTop (mkF m 45 #[.val (.ref d), .val (.int (0 : Int32)), .val (.int (2 : Int32)), .val (.int x), .val (.int (0 : Int32)), .val (.int (1 : Int32)), .val (.int (0 : Int32)), .val (.int (f 0))] []))
    refine OwnGo.fwd (fun tq' kq' => XS.iload X0.here hx rfl (hb hby d7_45) rfl kq') ?_
    show OwnGo _ _ _ _ (s₁.setTop (mkF m 47 #[.val (.ref d), .val (.int (0 : Int32)), .val (.int (2 : Int32)), .val (.int x), .val (.int (0 : Int32)), .val (.int (1 : Int32)), .val (.int (0 : Int32)), .val (.int (f 0))] [(.int (f 0))]))
    refine OwnGo.fwd (fun tq' kq' => XS.iloadN X0.here hx rfl (hb hby d7_47) rfl kq') ?_
    show OwnGo _ _ _ _ (s₁.setTop (mkF m 48 #[.val (.ref d), .val (.int (0 : Int32)), .val (.int (2 : Int32)), .val (.int x), .val (.int (0 : Int32)), .val (.int (1 : Int32)), .val (.int (0 : Int32)), .val (.int (f 0))] [(.int x), (.int (f 0))]))
    by_cases hc48_8 : x.toInt < (f 0).toInt
    · refine OwnGo.fwd (fun tq' kq' => XS.icmpNo X0.here hx rfl (hb hby d7_48) rfl (own_blt rfl rfl hc48_8).2.2.2 kq') ?_
      show OwnGo _ _ _ _ (s₁.setTop (mkF m 51 #[.val (.ref d), .val (.int (0 : Int32)), .val (.int (2 : Int32)), .val (.int x), .val (.int (0 : Int32)), .val (.int (1 : Int32)), .val (.int (0 : Int32)), .val (.int (f 0))] []))
      refine OwnGo.fwd (fun tq' kq' => XS.iload X0.here hx rfl (hb hby d7_51) rfl kq') ?_
      show OwnGo _ _ _ _ (s₁.setTop (mkF m 53 #[.val (.ref d), .val (.int (0 : Int32)), .val (.int (2 : Int32)), .val (.int x), .val (.int (0 : Int32)), .val (.int (1 : Int32)), .val (.int (0 : Int32)), .val (.int (f 0))] [(.int (0 : Int32))]))
      refine OwnGo.fwd (fun tq' kq' => XS.iconst X0.here hx rfl (hb hby d7_53) kq') ?_
      show OwnGo _ _ _ _ (s₁.setTop (mkF m 54 #[.val (.ref d), .val (.int (0 : Int32)), .val (.int (2 : Int32)), .val (.int x), .val (.int (0 : Int32)), .val (.int (1 : Int32)), .val (.int (0 : Int32)), .val (.int (f 0))] [(.int (1 : Int32)), (.int (0 : Int32))]))
      refine OwnGo.fwd (fun tq' kq' => XS.isub X0.here hx rfl (hb hby d7_54) rfl kq') ?_
      show OwnGo _ _ _ _ (s₁.setTop (mkF m 55 #[.val (.ref d), .val (.int (0 : Int32)), .val (.int (2 : Int32)), .val (.int x), .val (.int (0 : Int32)), .val (.int (1 : Int32)), .val (.int (0 : Int32)), .val (.int (f 0))] [(.int (-1 : Int32))]))
      refine OwnGo.fwd (fun tq' kq' => XS.istore X0.here hx rfl (hb hby d7_55) rfl (l' := #[.val (.ref d), .val (.int (0 : Int32)), .val (.int (2 : Int32)), .val (.int x), .val (.int (0 : Int32)), .val (.int (-1 : Int32)), .val (.int (0 : Int32)), .val (.int (f 0))]) rfl kq') ?_
      show OwnGo _ _ _ _ (s₁.setTop (mkF m 57 #[.val (.ref d), .val (.int (0 : Int32)), .val (.int (2 : Int32)), .val (.int x), .val (.int (0 : Int32)), .val (.int (-1 : Int32)), .val (.int (0 : Int32)), .val (.int (f 0))] []))
      refine OwnGo.fwd (fun tq' kq' => XS.goto X0.here hx rfl (pc0 := 57) (pc' := 63) rfl (hb hby d7_57) (by decide) (by decide) kq') ?_
      show OwnGo _ _ _ _ (s₁.setTop (mkF m 63 #[.val (.ref d), .val (.int (0 : Int32)), .val (.int (2 : Int32)), .val (.int x), .val (.int (0 : Int32)), .val (.int (-1 : Int32)), .val (.int (0 : Int32)), .val (.int (f 0))] []))
      refine OwnGo.fwd (fun tq' kq' => XS.goto X0.here hx rfl (pc0 := 63) (pc' := 8) rfl (hb hby d7_63) (by decide) (by decide) kq') ?_
      show OwnGo _ _ _ _ (s₁.setTop (mkF m 8 #[.val (.ref d), .val (.int (0 : Int32)), .val (.int (2 : Int32)), .val (.int x), .val (.int (0 : Int32)), .val (.int (-1 : Int32)), .val (.int (0 : Int32)), .val (.int (f 0))] []))
      refine OwnGo.fwd (fun tq' kq' => XS.iload X0.here hx rfl (hb hby d7_8) rfl kq') ?_
      show OwnGo _ _ _ _ (s₁.setTop (mkF m 10 #[.val (.ref d), .val (.int (0 : Int32)), .val (.int (2 : Int32)), .val (.int x), .val (.int (0 : Int32)), .val (.int (-1 : Int32)), .val (.int (0 : Int32)), .val (.int (f 0))] [(.int (0 : Int32))]))
      refine OwnGo.fwd (fun tq' kq' => XS.iload X0.here hx rfl (hb hby d7_10) rfl kq') ?_
      show OwnGo _ _ _ _ (s₁.setTop (mkF m 12 #[.val (.ref d), .val (.int (0 : Int32)), .val (.int (2 : Int32)), .val (.int x), .val (.int (0 : Int32)), .val (.int (-1 : Int32)), .val (.int (0 : Int32)), .val (.int (f 0))] [(.int (-1 : Int32)), (.int (0 : Int32))]))
      have hc12_9 : (-1 : Int) < (0 : Int) := by decide
      refine OwnGo.fwd (fun tq' kq' => XS.icmpYes X0.here hx rfl (pc0 := 12) (pc' := 66) rfl (hb hby d7_12) rfl (own_blt (by decide) (by decide) hc12_9).2.2.1 (by decide) (by decide) kq') ?_
      show OwnGo _ _ _ _ (s₁.setTop (mkF m 66 #[.val (.ref d), .val (.int (0 : Int32)), .val (.int (2 : Int32)), .val (.int x), .val (.int (0 : Int32)), .val (.int (-1 : Int32)), .val (.int (0 : Int32)), .val (.int (f 0))] []))
      refine OwnGo.fwd (fun tq' kq' => XS.iload X0.here hx rfl (hb hby d7_66) rfl kq') ?_
      show OwnGo _ _ _ _ (s₁.setTop (mkF m 68 #[.val (.ref d), .val (.int (0 : Int32)), .val (.int (2 : Int32)), .val (.int x), .val (.int (0 : Int32)), .val (.int (-1 : Int32)), .val (.int (0 : Int32)), .val (.int (f 0))] [(.int (0 : Int32))]))
      refine OwnGo.fwd (fun tq' kq' => XS.iconst X0.here hx rfl (hb hby d7_68) kq') ?_
      show OwnGo _ _ _ _ (s₁.setTop (mkF m 69 #[.val (.ref d), .val (.int (0 : Int32)), .val (.int (2 : Int32)), .val (.int x), .val (.int (0 : Int32)), .val (.int (-1 : Int32)), .val (.int (0 : Int32)), .val (.int (f 0))] [(.int (1 : Int32)), (.int (0 : Int32))]))
      refine OwnGo.fwd (fun tq' kq' => XS.iadd X0.here hx rfl (hb hby d7_69) rfl kq') ?_
      show OwnGo _ _ _ _ (s₁.setTop (mkF m 70 #[.val (.ref d), .val (.int (0 : Int32)), .val (.int (2 : Int32)), .val (.int x), .val (.int (0 : Int32)), .val (.int (-1 : Int32)), .val (.int (0 : Int32)), .val (.int (f 0))] [(.int (1 : Int32))]))
      refine OwnGo.fwd (fun tq' kq' => XS.ineg X0.here hx rfl (hb hby d7_70) rfl kq') ?_
      show OwnGo _ _ _ _ (s₁.setTop (mkF m 71 #[.val (.ref d), .val (.int (0 : Int32)), .val (.int (2 : Int32)), .val (.int x), .val (.int (0 : Int32)), .val (.int (-1 : Int32)), .val (.int (0 : Int32)), .val (.int (f 0))] [(.int (-1 : Int32))]))
      exact own_retI X0 hlk hx Bd.returns (hb hby d7_71) (by decide) (by decide) e0 ⟨N, rfl, _, rfl, Or.inr ⟨by decide, fun i hi => by
          have : i = 0 ∨ i = 1 := by omega
          rcases this with rfl | rfl <;> omega⟩⟩
    · refine OwnGo.fwd (fun tq' kq' => XS.icmpYes X0.here hx rfl (pc0 := 48) (pc' := 60) rfl (hb hby d7_48) rfl (own_bnlt rfl rfl hc48_8).2.2.2 (by decide) (by decide) kq') ?_
      show OwnGo _ _ _ _ (s₁.setTop (mkF m 60 #[.val (.ref d), .val (.int (0 : Int32)), .val (.int (2 : Int32)), .val (.int x), .val (.int (0 : Int32)), .val (.int (1 : Int32)), .val (.int (0 : Int32)), .val (.int (f 0))] []))
      refine OwnGo.fwd (fun tq' kq' => XS.iload X0.here hx rfl (hb hby d7_60) rfl kq') ?_
      show OwnGo _ _ _ _ (s₁.setTop (mkF m 62 #[.val (.ref d), .val (.int (0 : Int32)), .val (.int (2 : Int32)), .val (.int x), .val (.int (0 : Int32)), .val (.int (1 : Int32)), .val (.int (0 : Int32)), .val (.int (f 0))] [(.int (0 : Int32))]))
      exact own_retI X0 hlk hx Bd.returns (hb hby d7_62) (by decide) (by decide) e0 ⟨N, rfl, _, rfl, Or.inl ⟨0, by decide, by decide, by omega⟩⟩
theorem ef_5n2 (m : MethodId) (x0 : Addr) (x1 : Int32) (x2 : Int32) (x3 : Int32) : entryFrame m #[(.ref x0), (.int x1), (.int x2), (.int x3)] 4 = mkF m 0 #[.val (.ref x0), .val (.int x1), .val (.int x2), .val (.int x3)] [] := by first | (simp [entryFrame, mkF, argsToLocals, Value.category, maxLocals]; done) | rfl
def Q5n2 (Z : State) (d : Addr) (cp : Nat) (f : Nat → Int32) (x : Int32) (h0 : Heap) (n0 : Nat) (v : Option Value) (h : Heap) (L : List Loc) : Prop := Fr n0 L ∧ h = h0 ∧ ∃ z, v = some (.int z) ∧ own_bs 2 f x z
set_option maxRecDepth 65536 in
set_option maxHeartbeats 40000000 in
theorem rm5n2 (l : Launch) (Z : State) (a0 : Array Value) (hw : ∀ d ∈ tables_1, d.before a0 Z = true) (ws : List Jvm.Cond) (d : Addr) (cp : Nat) (f : Nat → Int32) (x : Int32) (h0 : Heap) (n0 : Nat) (Z0 : n0 ≤ h0.size) (V_d : OwnIA Z h0 d cp f) (hn : 2 ≤ cp) (hs0 : (f 0).toInt < (f 1).toInt) :
    MetFree l (⟨"java/util/Arrays", "binarySearch", "([IIII)I"⟩ : MethodName) (head1 (Jvm.Cond.code (⟨"java/util/Arrays", "binarySearch", "([IIII)I"⟩ : MethodName) jdk_65_method_58_code 4 (some .int) :: ws) ({ frames := 1, cells := 0, slots := 0, locals := 20 } : Room)) (fun arr' U => arr' = #[(.ref d), (.int (0 : Int32)), (.int (2 : Int32)), (.int x)] ∧ Z.Warmed39 U.vm ∧ U.heap = h0) (fun _ _ _ _ _ => True) (fun _ U o U' => ∃ v L, o = .returned v ∧ (Q5n2 Z d cp f x h0 n0) v U'.heap L ∧ FrameEnd U o U' L ({ frames := 1, cells := 0, slots := 0, locals := 20 } : Room).cells ({ frames := 1, cells := 0, slots := 0, locals := 20 } : Room).slots) := by
  refine MetFree.of_bodySF pn_5 hisR ?_
  intro p e s m args below meth c s₁ Bd hml0 hP hK
  obtain ⟨rfl, hZ, hh⟩ := hP
  have hx := Bd.exec
  have hby := Bd.bytes
  have hlk : meth.locks = false := BodyLoose.notSynchronized Bd
  have hml : c.maxLocals = 4 := hml0
  have hown : s.vm.findClass "java/util/Arrays" = some m.cls := findClass_of_methodNamed Bd.named
  have hnm := (name_of_methodNamed Bd.named Bd.method).1
  have X0 : Stand p l e ({ frames := 1, cells := 0, slots := 0, locals := 20 } : Room) s m #[(.ref d), (.int (0 : Int32)), (.int (2 : Int32)), (.int x)] below meth c s₁ [] 0 0 := Stand.of_body Bd
  have e0 : s₁.heap = h0 := by rw [← hh, Bd.state]; rfl
  have N := Fr.nil n0
  have Zs := Z0
  change OwnGo p.tables e below (OwnEnd s (Q5n2 Z d cp f x h0 n0) ({ frames := 1, cells := 0, slots := 0, locals := 20 } : Room).cells ({ frames := 1, cells := 0, slots := 0, locals := 20 } : Room).slots) _
  refine OwnGo.fwd (fun tq' kq' => castTop (ef_5n2 m d (0 : Int32) (2 : Int32) x) kq') ?_
  show OwnGo _ _ _ _ (s₁.setTop (mkF m 0 #[.val (.ref d), .val (.int (0 : Int32)), .val (.int (2 : Int32)), .val (.int x)] []))
  have hcp : (Int32.ofNat cp).toInt = (cp : Int) := own_ofNat (by obtain ⟨_, _, _, r, _⟩ := V_d; exact r)
  refine OwnGo.fwd (fun tq' kq' => XS.aloadN X0.here hx rfl (hb hby d5_0) rfl rfl kq') ?_
  show OwnGo _ _ _ _ (s₁.setTop (mkF m 1 #[.val (.ref d), .val (.int (0 : Int32)), .val (.int (2 : Int32)), .val (.int x)] [(.ref d)]))
  refine OwnGo.fwd (fun tq' kq' => own_len X0 hx hZ e0 V_d (g := (mkF m 1 #[.val (.ref d), .val (.int (0 : Int32)), .val (.int (2 : Int32)), .val (.int x)] [(.ref d)])) rfl rfl (hb hby d5_1) tq' kq') ?_
  show OwnGo _ _ _ _ (s₁.setTop (mkF m 2 #[.val (.ref d), .val (.int (0 : Int32)), .val (.int (2 : Int32)), .val (.int x)] [(.int (Int32.ofNat cp))]))
  refine OwnGo.fwd (fun tq' kq' => XS.iloadN X0.here hx rfl (hb hby d5_2) rfl kq') ?_
  show OwnGo _ _ _ _ (s₁.setTop (mkF m 3 #[.val (.ref d), .val (.int (0 : Int32)), .val (.int (2 : Int32)), .val (.int x)] [(.int (0 : Int32)), (.int (Int32.ofNat cp))]))
  refine OwnGo.fwd (fun tq' kq' => XS.iloadN X0.here hx rfl (hb hby d5_3) rfl kq') ?_
  show OwnGo _ _ _ _ (s₁.setTop (mkF m 4 #[.val (.ref d), .val (.int (0 : Int32)), .val (.int (2 : Int32)), .val (.int x)] [(.int (2 : Int32)), (.int (0 : Int32)), (.int (Int32.ofNat cp))]))
  obtain ⟨_, _, ⟨T1, L1, k1, n1⟩, -, X1, ⟨Lc1, hQ1, l1, y1, z1⟩, st1⟩ := Jvm.LawKit.callS X0 hx (y := (⟨"java/util/Arrays", "rangeCheck", "(III)V"⟩ : MethodName)) hown (mvT hZ (hw _ (List.mem_of_getElem? (i := 30) rfl))) (mvT hZ (hw _ (List.mem_of_getElem? (i := 31) rfl))) (mvT hZ (hw _ (List.mem_of_getElem? (i := 28) rfl))) (mvT hZ (hw _ (List.mem_of_getElem? (i := 32) rfl))) (by decide) (backOf (W := 0) (rm6n2 l Z a0 hw [] cp h0 n0 Zs hcp hn) hZ (hw _ (List.mem_of_getElem? (i := 32) rfl)) (hw _ (List.mem_of_getElem? (i := 28) rfl)) (by decide) (by decide)) (g := (mkF m 4 #[.val (.ref d), .val (.int (0 : Int32)), .val (.int (2 : Int32)), .val (.int x)] [(.int (2 : Int32)), (.int (0 : Int32)), (.int (Int32.ofNat cp))])) rfl (by rw [hml]; rfl) (argsL := [(.int (Int32.ofNat cp)), (.int (0 : Int32)), (.int (2 : Int32))]) (rest := []) (lenOf pd_5 rfl) rfl (by show 2 * 0 + _ ≤ _; exact Nat.le_of_eq rfl) (hb hby d5_4) (fun _ _ => ⟨rfl, e0, (by decide : 0 + 0 ≤ _), (by decide : 0 + 0 ≤ _)⟩)
  dsimp only [Pt.U, Pt.locs, Pt.cells, Pt.slots] at X1 l1 y1 z1 st1 hQ1
  subst l1 y1 z1
  obtain ⟨rfl, N1q, e1⟩ := hQ1
  have N := Fr.app N N1q
  refine OwnGo.fwd st1 ?_
  show OwnGo _ _ _ _ (T1.setTop (mkF m 7 #[.val (.ref d), .val (.int (0 : Int32)), .val (.int (2 : Int32)), .val (.int x)] []))
  refine OwnGo.fwd (fun tq' kq' => XS.aloadN X1.here hx rfl (hb hby d5_7) rfl rfl kq') ?_
  show OwnGo _ _ _ _ (T1.setTop (mkF m 8 #[.val (.ref d), .val (.int (0 : Int32)), .val (.int (2 : Int32)), .val (.int x)] [(.ref d)]))
  refine OwnGo.fwd (fun tq' kq' => XS.iloadN X1.here hx rfl (hb hby d5_8) rfl kq') ?_
  show OwnGo _ _ _ _ (T1.setTop (mkF m 9 #[.val (.ref d), .val (.int (0 : Int32)), .val (.int (2 : Int32)), .val (.int x)] [(.int (0 : Int32)), (.ref d)]))
  refine OwnGo.fwd (fun tq' kq' => XS.iloadN X1.here hx rfl (hb hby d5_9) rfl kq') ?_
  show OwnGo _ _ _ _ (T1.setTop (mkF m 10 #[.val (.ref d), .val (.int (0 : Int32)), .val (.int (2 : Int32)), .val (.int x)] [(.int (2 : Int32)), (.int (0 : Int32)), (.ref d)]))
  refine OwnGo.fwd (fun tq' kq' => XS.iloadN X1.here hx rfl (hb hby d5_10) rfl kq') ?_
  show OwnGo _ _ _ _ (T1.setTop (mkF m 11 #[.val (.ref d), .val (.int (0 : Int32)), .val (.int (2 : Int32)), .val (.int x)] [(.int x), (.int (2 : Int32)), (.int (0 : Int32)), (.ref d)]))
  obtain ⟨_, _, ⟨T2, L2, k2, n2⟩, -, X2, ⟨Lc2, hQ2, l2, y2, z2⟩, st2⟩ := Jvm.LawKit.callS X1 hx (y := (⟨"java/util/Arrays", "binarySearch0", "([IIII)I"⟩ : MethodName)) hown (mvT hZ (hw _ (List.mem_of_getElem? (i := 33) rfl))) (mvT hZ (hw _ (List.mem_of_getElem? (i := 34) rfl))) (mvT hZ (hw _ (List.mem_of_getElem? (i := 28) rfl))) (mvT hZ (hw _ (List.mem_of_getElem? (i := 35) rfl))) (by decide) (backOf (W := 0) (rm7n2 l Z a0 hw [] d cp f x h0 n0 Zs V_d hn hs0) hZ (hw _ (List.mem_of_getElem? (i := 35) rfl)) (hw _ (List.mem_of_getElem? (i := 28) rfl)) (by decide) (by decide)) (g := (mkF m 11 #[.val (.ref d), .val (.int (0 : Int32)), .val (.int (2 : Int32)), .val (.int x)] [(.int x), (.int (2 : Int32)), (.int (0 : Int32)), (.ref d)])) rfl (by rw [hml]; rfl) (argsL := [(.ref d), (.int (0 : Int32)), (.int (2 : Int32)), (.int x)]) (rest := []) (lenOf pd_4 rfl) rfl (by show 2 * 0 + _ ≤ _; exact Nat.le_of_eq rfl) (hb hby d5_11) (fun _ _ => ⟨rfl, e1, (by decide : 0 + 0 ≤ _), (by decide : 0 + 0 ≤ _)⟩)
  dsimp only [Pt.U, Pt.locs, Pt.cells, Pt.slots] at X2 l2 y2 z2 st2 hQ2
  subst l2 y2 z2
  obtain ⟨N2q, e2, z2, rfl, hb2⟩ := hQ2
  have N := Fr.app N N2q
  refine OwnGo.fwd st2 ?_
  show OwnGo _ _ _ _ (T2.setTop (mkF m 14 #[.val (.ref d), .val (.int (0 : Int32)), .val (.int (2 : Int32)), .val (.int x)] [(.int z2)]))
  exact own_retI X2 hlk hx Bd.returns (hb hby d5_14) (by decide) (by decide) e2 ⟨N, rfl, _, rfl, hb2⟩
theorem ef_4n2 (m : MethodId) (x0 : Addr) (x1 : Int32) : entryFrame m #[(.ref x0), (.int x1)] 3 = mkF m 0 #[.val (.ref x0), .val (.int x1), .unset] [] := by first | (simp [entryFrame, mkF, argsToLocals, Value.category, maxLocals]; done) | rfl
def Q4n2 (Z : State) (a : Addr) (da : Addr) (fa : Addr) (t : Int64) (cp : Nat) (f : Nat → Int32) (g : Nat → Int32) (x : Int32) (h0 : Heap) (n0 : Nat) (v : Option Value) (h : Heap) (L : List Loc) : Prop := Fr n0 L ∧ h = h0 ∧ ∃ r, v = some (.int r) ∧ own_fi 2 f g x r
set_option maxRecDepth 65536 in
set_option maxHeartbeats 40000000 in
theorem rm4n2 (l : Launch) (Z : State) (a0 : Array Value) (hw : ∀ d ∈ tables_1, d.before a0 Z = true) (ws : List Jvm.Cond) (a : Addr) (da : Addr) (fa : Addr) (t : Int64) (cp : Nat) (f : Nat → Int32) (g : Nat → Int32) (x : Int32) (h0 : Heap) (n0 : Nat) (Z0 : n0 ≤ h0.size) (HA : own_P Z h0 n0 a da fa 2 t cp f g) (hn : 2 ≤ cp) (hs0 : (f 0).toInt < (f 1).toInt) :
    MetFree l (⟨"com/example/inverse_frequency/inversefrequency/Postings", "frequencyIn", "(I)I"⟩ : MethodName) (head1 (Jvm.Cond.code (⟨"com/example/inverse_frequency/inversefrequency/Postings", "frequencyIn", "(I)I"⟩ : MethodName) prog_33_method_8_code 3 (some .int) :: ws) ({ frames := 2, cells := 0, slots := 0, locals := 40 } : Room)) (fun arr' U => arr' = #[(.ref a), (.int x)] ∧ Z.Warmed39 U.vm ∧ U.heap = h0) (fun _ _ _ _ _ => True) (fun _ U o U' => ∃ v L, o = .returned v ∧ (Q4n2 Z a da fa t cp f g x h0 n0) v U'.heap L ∧ FrameEnd U o U' L ({ frames := 2, cells := 0, slots := 0, locals := 40 } : Room).cells ({ frames := 2, cells := 0, slots := 0, locals := 40 } : Room).slots) := by
  refine MetFree.of_bodySF pn_4 hisR ?_
  intro p e s m args below meth c s₁ Bd hml0 hP hK
  obtain ⟨rfl, hZ, hh⟩ := hP
  have hx := Bd.exec
  have hby := Bd.bytes
  have hlk : meth.locks = false := BodyLoose.notSynchronized Bd
  have hml : c.maxLocals = 3 := hml0
  have hown : s.vm.findClass "com/example/inverse_frequency/inversefrequency/Postings" = some m.cls := findClass_of_methodNamed Bd.named
  have hnm := (name_of_methodNamed Bd.named Bd.method).1
  have X0 : Stand p l e ({ frames := 2, cells := 0, slots := 0, locals := 40 } : Room) s m #[(.ref a), (.int x)] below meth c s₁ [] 0 0 := Stand.of_body Bd
  have e0 : s₁.heap = h0 := by rw [← hh, Bd.state]; rfl
  have N := Fr.nil n0
  have Zs := Z0
  change OwnGo p.tables e below (OwnEnd s (Q4n2 Z a da fa t cp f g x h0 n0) ({ frames := 2, cells := 0, slots := 0, locals := 40 } : Room).cells ({ frames := 2, cells := 0, slots := 0, locals := 40 } : Room).slots) _
  refine OwnGo.fwd (fun tq' kq' => castTop (ef_4n2 m a x) kq') ?_
  show OwnGo _ _ _ _ (s₁.setTop (mkF m 0 #[.val (.ref a), .val (.int x), .unset] []))
  obtain ⟨E_a, F_documents_a, F_frequencies_a, F_size_a, F_totalFrequency_a, V_da, V_fa, ne_a_da, ne_a_fa, ne_da_fa, g_a, g_da, g_fa⟩ := HA
  refine OwnGo.fwd (fun tq' kq' => XS.aloadN X0.here hx rfl (hb hby d4_0) rfl rfl kq') ?_
  show OwnGo _ _ _ _ (s₁.setTop (mkF m 1 #[.val (.ref a), .val (.int x), .unset] [(.ref a)]))
  obtain ⟨T1, X1, e1, st1⟩ := getF X0 hx hZ hown (host := "") (Or.inl (hw _ (List.mem_of_getElem? (i := 15) rfl))) Via.refl e0 F_documents_a (g := (mkF m 1 #[.val (.ref a), .val (.int x), .unset] [(.ref a)])) rfl rfl (hb hby d4_1)
  refine OwnGo.fwd st1 ?_
  show OwnGo _ _ _ _ (T1.setTop (mkF m 4 #[.val (.ref a), .val (.int x), .unset] [(.ref da)]))
  refine OwnGo.fwd (fun tq' kq' => XS.iconst X1.here hx rfl (hb hby d4_4) kq') ?_
  show OwnGo _ _ _ _ (T1.setTop (mkF m 5 #[.val (.ref a), .val (.int x), .unset] [(.int (0 : Int32)), (.ref da)]))
  refine OwnGo.fwd (fun tq' kq' => XS.aloadN X1.here hx rfl (hb hby d4_5) rfl rfl kq') ?_
  show OwnGo _ _ _ _ (T1.setTop (mkF m 6 #[.val (.ref a), .val (.int x), .unset] [(.ref a), (.int (0 : Int32)), (.ref da)]))
  obtain ⟨T2, X2, e2, st2⟩ := getF X1 hx hZ hown (host := "") (Or.inl (hw _ (List.mem_of_getElem? (i := 24) rfl))) Via.refl e1 F_size_a (g := (mkF m 6 #[.val (.ref a), .val (.int x), .unset] [(.ref a), (.int (0 : Int32)), (.ref da)])) rfl rfl (hb hby d4_6)
  refine OwnGo.fwd st2 ?_
  show OwnGo _ _ _ _ (T2.setTop (mkF m 9 #[.val (.ref a), .val (.int x), .unset] [(.int (Int32.ofNat 2)), (.int (0 : Int32)), (.ref da)]))
  refine OwnGo.fwd (fun tq' kq' => XS.iloadN X2.here hx rfl (hb hby d4_9) rfl kq') ?_
  show OwnGo _ _ _ _ (T2.setTop (mkF m 10 #[.val (.ref a), .val (.int x), .unset] [(.int x), (.int (Int32.ofNat 2)), (.int (0 : Int32)), (.ref da)]))
  obtain ⟨_, _, ⟨T3, L3, k3, n3⟩, -, X3, ⟨Lc3, hQ3, l3, y3, z3⟩, st3⟩ := Jvm.LawKit.callS X2 hx (y := (⟨"java/util/Arrays", "binarySearch", "([IIII)I"⟩ : MethodName)) hown (mvT hZ (hw _ (List.mem_of_getElem? (i := 26) rfl))) (mvT hZ (hw _ (List.mem_of_getElem? (i := 27) rfl))) (mvT hZ (hw _ (List.mem_of_getElem? (i := 28) rfl))) (mvT hZ (hw _ (List.mem_of_getElem? (i := 29) rfl))) (by decide) (backOf (W := 0) (rm5n2 l Z a0 hw [] da cp f x h0 n0 Zs V_da hn hs0) hZ (hw _ (List.mem_of_getElem? (i := 29) rfl)) (hw _ (List.mem_of_getElem? (i := 28) rfl)) (by decide) (by decide)) (g := (mkF m 10 #[.val (.ref a), .val (.int x), .unset] [(.int x), (.int (Int32.ofNat 2)), (.int (0 : Int32)), (.ref da)])) rfl (by rw [hml]; rfl) (argsL := [(.ref da), (.int (0 : Int32)), (.int (Int32.ofNat 2)), (.int x)]) (rest := []) (lenOf pd_4 rfl) rfl (by show 2 * 0 + _ ≤ _; exact Nat.le_of_eq rfl) (hb hby d4_10) (fun _ _ => ⟨rfl, e2, (by decide : 0 + 0 ≤ _), (by decide : 0 + 0 ≤ _)⟩)
  dsimp only [Pt.U, Pt.locs, Pt.cells, Pt.slots] at X3 l3 y3 z3 st3 hQ3
  subst l3 y3 z3
  obtain ⟨N3q, e3, z3, rfl, hb3⟩ := hQ3
  have N := Fr.app N N3q
  refine OwnGo.fwd st3 ?_
  show OwnGo _ _ _ _ (T3.setTop (mkF m 13 #[.val (.ref a), .val (.int x), .unset] [(.int z3)]))
  refine OwnGo.fwd (fun tq' kq' => XS.istoreN X3.here hx rfl (hb hby d4_13) rfl (l' := #[.val (.ref a), .val (.int x), .val (.int z3)]) rfl kq') ?_
  show OwnGo _ _ _ _ (T3.setTop (mkF m 14 #[.val (.ref a), .val (.int x), .val (.int z3)] []))
  refine OwnGo.fwd (fun tq' kq' => XS.iloadN X3.here hx rfl (hb hby d4_14) rfl kq') ?_
  show OwnGo _ _ _ _ (T3.setTop (mkF m 15 #[.val (.ref a), .val (.int x), .val (.int z3)] [(.int z3)]))
  by_cases hc15_4 : z3.toInt < 0
  · refine OwnGo.fwd (fun tq' kq' => XS.ifNo X3.here hx rfl (hb hby d4_15) rfl ((if0 _ _).trans (own_blt rfl (by decide) hc15_4).2.1) kq') ?_
    show OwnGo _ _ _ _ (T3.setTop (mkF m 18 #[.val (.ref a), .val (.int x), .val (.int z3)] []))
    refine OwnGo.fwd (fun tq' kq' => XS.iconst X3.here hx rfl (hb hby d4_18) kq') ?_
    show OwnGo _ _ _ _ (T3.setTop (mkF m 19 #[.val (.ref a), .val (.int x), .val (.int z3)] [(.int (0 : Int32))]))
    refine OwnGo.fwd (fun tq' kq' => XS.goto X3.here hx rfl (pc0 := 19) (pc' := 28) rfl (hb hby d4_19) (by decide) (by decide) kq') ?_
    show OwnGo _ _ _ _ (T3.setTop (mkF m 28 #[.val (.ref a), .val (.int x), .val (.int z3)] [(.int (0 : Int32))]))
    exact own_retI X3 hlk hx Bd.returns (hb hby d4_28) (by decide) (by decide) e3 ⟨N, rfl, _, rfl, Or.inr ⟨(hb3.resolve_left (fun ⟨i, hi, hz, _⟩ => by omega)).2, rfl⟩⟩
  · refine OwnGo.fwd (fun tq' kq' => XS.ifYes X3.here hx rfl (pc0 := 15) (pc' := 22) rfl (hb hby d4_15) rfl ((if0 _ _).trans (own_bnlt rfl (by decide) hc15_4).2.1) (by decide) (by decide) kq') ?_
    show OwnGo _ _ _ _ (T3.setTop (mkF m 22 #[.val (.ref a), .val (.int x), .val (.int z3)] []))
    obtain ⟨i, hi, hz, hfi⟩ := hb3.resolve_right (fun q => hc15_4 q.1)
    refine OwnGo.fwd (fun tq' kq' => XS.aloadN X3.here hx rfl (hb hby d4_22) rfl rfl kq') ?_
    show OwnGo _ _ _ _ (T3.setTop (mkF m 23 #[.val (.ref a), .val (.int x), .val (.int z3)] [(.ref a)]))
    obtain ⟨T5, X5, e5, st5⟩ := getF X3 hx hZ hown (host := "") (Or.inl (hw _ (List.mem_of_getElem? (i := 17) rfl))) Via.refl e3 F_frequencies_a (g := (mkF m 23 #[.val (.ref a), .val (.int x), .val (.int z3)] [(.ref a)])) rfl rfl (hb hby d4_23)
    refine OwnGo.fwd st5 ?_
    show OwnGo _ _ _ _ (T5.setTop (mkF m 26 #[.val (.ref a), .val (.int x), .val (.int z3)] [(.ref fa)]))
    refine OwnGo.fwd (fun tq' kq' => XS.iloadN X5.here hx rfl (hb hby d4_26) rfl kq') ?_
    show OwnGo _ _ _ _ (T5.setTop (mkF m 27 #[.val (.ref a), .val (.int x), .val (.int z3)] [(.int z3), (.ref fa)]))
    refine OwnGo.fwd (fun tq' kq' => own_iaload X5 hx hZ e5 V_fa (i := i) hz (by omega) (g := (mkF m 27 #[.val (.ref a), .val (.int x), .val (.int z3)] [(.int z3), (.ref fa)])) rfl rfl (hb hby d4_27) tq' kq') ?_
    show OwnGo _ _ _ _ (T5.setTop (mkF m 28 #[.val (.ref a), .val (.int x), .val (.int z3)] [(.int (g i))]))
    exact own_retI X5 hlk hx Bd.returns (hb hby d4_28) (by decide) (by decide) e5 ⟨N, rfl, _, rfl, Or.inl ⟨i, hi, hfi, rfl⟩⟩
theorem ef_7n3 (m : MethodId) (x0 : Addr) (x1 : Int32) (x2 : Int32) (x3 : Int32) : entryFrame m #[(.ref x0), (.int x1), (.int x2), (.int x3)] 8 = mkF m 0 #[.val (.ref x0), .val (.int x1), .val (.int x2), .val (.int x3), .unset, .unset, .unset, .unset] [] := by first | (simp [entryFrame, mkF, argsToLocals, Value.category, maxLocals]; done) | rfl
def Q7n3 (Z : State) (d : Addr) (cp : Nat) (f : Nat → Int32) (x : Int32) (h0 : Heap) (n0 : Nat) (v : Option Value) (h : Heap) (L : List Loc) : Prop := Fr n0 L ∧ h = h0 ∧ ∃ z, v = some (.int z) ∧ own_bs 3 f x z
set_option maxRecDepth 65536 in
set_option maxHeartbeats 40000000 in
theorem rm7n3 (l : Launch) (Z : State) (a0 : Array Value) (hw : ∀ d ∈ tables_1, d.before a0 Z = true) (ws : List Jvm.Cond) (d : Addr) (cp : Nat) (f : Nat → Int32) (x : Int32) (h0 : Heap) (n0 : Nat) (Z0 : n0 ≤ h0.size) (V_d : OwnIA Z h0 d cp f) (hn : 3 ≤ cp) (hs0 : (f 0).toInt < (f 1).toInt) (hs1 : (f 1).toInt < (f 2).toInt) :
    MetFree l (⟨"java/util/Arrays", "binarySearch0", "([IIII)I"⟩ : MethodName) (head1 (Jvm.Cond.code (⟨"java/util/Arrays", "binarySearch0", "([IIII)I"⟩ : MethodName) jdk_65_method_59_code 8 (some .int) :: ws) ({ frames := 0, cells := 0, slots := 0, locals := 0 } : Room)) (fun arr' U => arr' = #[(.ref d), (.int (0 : Int32)), (.int (3 : Int32)), (.int x)] ∧ Z.Warmed39 U.vm ∧ U.heap = h0) (fun _ _ _ _ _ => True) (fun _ U o U' => ∃ v L, o = .returned v ∧ (Q7n3 Z d cp f x h0 n0) v U'.heap L ∧ FrameEnd U o U' L ({ frames := 0, cells := 0, slots := 0, locals := 0 } : Room).cells ({ frames := 0, cells := 0, slots := 0, locals := 0 } : Room).slots) := by
  refine MetFree.of_bodySF pn_7 hisR ?_
  intro p e s m args below meth c s₁ Bd hml0 hP hK
  obtain ⟨rfl, hZ, hh⟩ := hP
  have hx := Bd.exec
  have hby := Bd.bytes
  have hlk : meth.locks = false := BodyLoose.notSynchronized Bd
  have hml : c.maxLocals = 8 := hml0
  have hown : s.vm.findClass "java/util/Arrays" = some m.cls := findClass_of_methodNamed Bd.named
  have hnm := (name_of_methodNamed Bd.named Bd.method).1
  have X0 : Stand p l e ({ frames := 0, cells := 0, slots := 0, locals := 0 } : Room) s m #[(.ref d), (.int (0 : Int32)), (.int (3 : Int32)), (.int x)] below meth c s₁ [] 0 0 := Stand.of_body Bd
  have e0 : s₁.heap = h0 := by rw [← hh, Bd.state]; rfl
  have N := Fr.nil n0
  have Zs := Z0
  change OwnGo p.tables e below (OwnEnd s (Q7n3 Z d cp f x h0 n0) ({ frames := 0, cells := 0, slots := 0, locals := 0 } : Room).cells ({ frames := 0, cells := 0, slots := 0, locals := 0 } : Room).slots) _
  refine OwnGo.fwd (fun tq' kq' => castTop (ef_7n3 m d (0 : Int32) (3 : Int32) x) kq') ?_
  show OwnGo _ _ _ _ (s₁.setTop (mkF m 0 #[.val (.ref d), .val (.int (0 : Int32)), .val (.int (3 : Int32)), .val (.int x), .unset, .unset, .unset, .unset] []))
  refine OwnGo.fwd (fun tq' kq' => XS.iloadN X0.here hx rfl (hb hby d7_0) rfl kq') ?_
  show OwnGo _ _ _ _ (s₁.setTop (mkF m 1 #[.val (.ref d), .val (.int (0 : Int32)), .val (.int (3 : Int32)), .val (.int x), .unset, .unset, .unset, .unset] [(.int (0 : Int32))]))
  refine OwnGo.fwd (fun tq' kq' => XS.istore X0.here hx rfl (hb hby d7_1) rfl (l' := #[.val (.ref d), .val (.int (0 : Int32)), .val (.int (3 : Int32)), .val (.int x), .val (.int (0 : Int32)), .unset, .unset, .unset]) rfl kq') ?_
  show OwnGo _ _ _ _ (s₁.setTop (mkF m 3 #[.val (.ref d), .val (.int (0 : Int32)), .val (.int (3 : Int32)), .val (.int x), .val (.int (0 : Int32)), .unset, .unset, .unset] []))
  refine OwnGo.fwd (fun tq' kq' => XS.iloadN X0.here hx rfl (hb hby d7_3) rfl kq') ?_
  show OwnGo _ _ _ _ (s₁.setTop (mkF m 4 #[.val (.ref d), .val (.int (0 : Int32)), .val (.int (3 : Int32)), .val (.int x), .val (.int (0 : Int32)), .unset, .unset, .unset] [(.int (3 : Int32))]))
  refine OwnGo.fwd (fun tq' kq' => XS.iconst X0.here hx rfl (hb hby d7_4) kq') ?_
  show OwnGo _ _ _ _ (s₁.setTop (mkF m 5 #[.val (.ref d), .val (.int (0 : Int32)), .val (.int (3 : Int32)), .val (.int x), .val (.int (0 : Int32)), .unset, .unset, .unset] [(.int (1 : Int32)), (.int (3 : Int32))]))
  refine OwnGo.fwd (fun tq' kq' => XS.isub X0.here hx rfl (hb hby d7_5) rfl kq') ?_
  show OwnGo _ _ _ _ (s₁.setTop (mkF m 6 #[.val (.ref d), .val (.int (0 : Int32)), .val (.int (3 : Int32)), .val (.int x), .val (.int (0 : Int32)), .unset, .unset, .unset] [(.int (2 : Int32))]))
  refine OwnGo.fwd (fun tq' kq' => XS.istore X0.here hx rfl (hb hby d7_6) rfl (l' := #[.val (.ref d), .val (.int (0 : Int32)), .val (.int (3 : Int32)), .val (.int x), .val (.int (0 : Int32)), .val (.int (2 : Int32)), .unset, .unset]) rfl kq') ?_
  show OwnGo _ _ _ _ (s₁.setTop (mkF m 8 #[.val (.ref d), .val (.int (0 : Int32)), .val (.int (3 : Int32)), .val (.int x), .val (.int (0 : Int32)), .val (.int (2 : Int32)), .unset, .unset] []))
  refine OwnGo.fwd (fun tq' kq' => XS.iload X0.here hx rfl (hb hby d7_8) rfl kq') ?_
  show OwnGo _ _ _ _ (s₁.setTop (mkF m 10 #[.val (.ref d), .val (.int (0 : Int32)), .val (.int (3 : Int32)), .val (.int x), .val (.int (0 : Int32)), .val (.int (2 : Int32)), .unset, .unset] [(.int (0 : Int32))]))
  refine OwnGo.fwd (fun tq' kq' => XS.iload X0.here hx rfl (hb hby d7_10) rfl kq') ?_
  show OwnGo _ _ _ _ (s₁.setTop (mkF m 12 #[.val (.ref d), .val (.int (0 : Int32)), .val (.int (3 : Int32)), .val (.int x), .val (.int (0 : Int32)), .val (.int (2 : Int32)), .unset, .unset] [(.int (2 : Int32)), (.int (0 : Int32))]))
  have hc12_1 : ¬ ((2 : Int) < (0 : Int)) := by decide
  refine OwnGo.fwd (fun tq' kq' => XS.icmpNo X0.here hx rfl (hb hby d7_12) rfl (own_bnlt (by decide) (by decide) hc12_1).2.2.1 kq') ?_
  show OwnGo _ _ _ _ (s₁.setTop (mkF m 15 #[.val (.ref d), .val (.int (0 : Int32)), .val (.int (3 : Int32)), .val (.int x), .val (.int (0 : Int32)), .val (.int (2 : Int32)), .unset, .unset] []))
  refine OwnGo.fwd (fun tq' kq' => XS.iload X0.here hx rfl (hb hby d7_15) rfl kq') ?_
  show OwnGo _ _ _ _ (s₁.setTop (mkF m 17 #[.val (.ref d), .val (.int (0 : Int32)), .val (.int (3 : Int32)), .val (.int x), .val (.int (0 : Int32)), .val (.int (2 : Int32)), .unset, .unset] [(.int (0 : Int32))]))
  refine OwnGo.fwd (fun tq' kq' => XS.iload X0.here hx rfl (hb hby d7_17) rfl kq') ?_
  show OwnGo _ _ _ _ (s₁.setTop (mkF m 19 #[.val (.ref d), .val (.int (0 : Int32)), .val (.int (3 : Int32)), .val (.int x), .val (.int (0 : Int32)), .val (.int (2 : Int32)), .unset, .unset] [(.int (2 : Int32)), (.int (0 : Int32))]))
  refine OwnGo.fwd (fun tq' kq' => XS.iadd X0.here hx rfl (hb hby d7_19) rfl kq') ?_
  show OwnGo _ _ _ _ (s₁.setTop (mkF m 20 #[.val (.ref d), .val (.int (0 : Int32)), .val (.int (3 : Int32)), .val (.int x), .val (.int (0 : Int32)), .val (.int (2 : Int32)), .unset, .unset] [(.int (2 : Int32))]))
  refine OwnGo.fwd (fun tq' kq' => XS.iconst X0.here hx rfl (hb hby d7_20) kq') ?_
  show OwnGo _ _ _ _ (s₁.setTop (mkF m 21 #[.val (.ref d), .val (.int (0 : Int32)), .val (.int (3 : Int32)), .val (.int x), .val (.int (0 : Int32)), .val (.int (2 : Int32)), .unset, .unset] [(.int (1 : Int32)), (.int (2 : Int32))]))
  refine OwnGo.fwd (fun tq' kq' => XS.iushr X0.here hx rfl (hb hby d7_21) rfl kq') ?_
  show OwnGo _ _ _ _ (s₁.setTop (mkF m 22 #[.val (.ref d), .val (.int (0 : Int32)), .val (.int (3 : Int32)), .val (.int x), .val (.int (0 : Int32)), .val (.int (2 : Int32)), .unset, .unset] [(.int (1 : Int32))]))
  refine OwnGo.fwd (fun tq' kq' => XS.istore X0.here hx rfl (hb hby d7_22) rfl (l' := #[.val (.ref d), .val (.int (0 : Int32)), .val (.int (3 : Int32)), .val (.int x), .val (.int (0 : Int32)), .val (.int (2 : Int32)), .val (.int (1 : Int32)), .unset]) rfl kq') ?_
  show OwnGo _ _ _ _ (s₁.setTop (mkF m 24 #[.val (.ref d), .val (.int (0 : Int32)), .val (.int (3 : Int32)), .val (.int x), .val (.int (0 : Int32)), .val (.int (2 : Int32)), .val (.int (1 : Int32)), .unset] []))
  refine OwnGo.fwd (fun tq' kq' => XS.aloadN X0.here hx rfl (hb hby d7_24) rfl rfl kq') ?_
  show OwnGo _ _ _ _ (s₁.setTop (mkF m 25 #[.val (.ref d), .val (.int (0 : Int32)), .val (.int (3 : Int32)), .val (.int x), .val (.int (0 : Int32)), .val (.int (2 : Int32)), .val (.int (1 : Int32)), .unset] [(.ref d)]))
  refine OwnGo.fwd (fun tq' kq' => XS.iload X0.here hx rfl (hb hby d7_25) rfl kq') ?_
  show OwnGo _ _ _ _ (s₁.setTop (mkF m 27 #[.val (.ref d), .val (.int (0 : Int32)), .val (.int (3 : Int32)), .val (.int x), .val (.int (0 : Int32)), .val (.int (2 : Int32)), .val (.int (1 : Int32)), .unset] [(.int (1 : Int32)), (.ref d)]))
  refine OwnGo.fwd (fun tq' kq' => own_iaload X0 hx hZ e0 V_d (i := 1) (by decide) (by omega) (g := (mkF m 27 #[.val (.ref d), .val (.int (0 : Int32)), .val (.int (3 : Int32)), .val (.int x), .val (.int (0 : Int32)), .val (.int (2 : Int32)), .val (.int (1 : Int32)), .unset] [(.int (1 : Int32)), (.ref d)])) rfl rfl (hb hby d7_27) tq' kq') ?_
  show OwnGo _ _ _ _ (s₁.setTop (mkF m 28 #[.val (.ref d), .val (.int (0 : Int32)), .val (.int (3 : Int32)), .val (.int x), .val (.int (0 : Int32)), .val (.int (2 : Int32)), .val (.int (1 : Int32)), .unset] [(.int (f 1))]))
  refine OwnGo.fwd (fun tq' kq' => XS.istore X0.here hx rfl (hb hby d7_28) rfl (l' := #[.val (.ref d), .val (.int (0 : Int32)), .val (.int (3 : Int32)), .val (.int x), .val (.int (0 : Int32)), .val (.int (2 : Int32)), .val (.int (1 : Int32)), .val (.int (f 1))]) rfl kq') ?_
  show OwnGo _ _ _ _ (s₁.setTop (mkF m 30 #[.val (.ref d), .val (.int (0 : Int32)), .val (.int (3 : Int32)), .val (.int x), .val (.int (0 : Int32)), .val (.int (2 : Int32)), .val (.int (1 : Int32)), .val (.int (f 1))] []))
  refine OwnGo.fwd (fun tq' kq' => XS.iload X0.here hx rfl (hb hby d7_30) rfl kq') ?_
  show OwnGo _ _ _ _ (s₁.setTop (mkF m 32 #[.val (.ref d), .val (.int (0 : Int32)), .val (.int (3 : Int32)), .val (.int x), .val (.int (0 : Int32)), .val (.int (2 : Int32)), .val (.int (1 : Int32)), .val (.int (f 1))] [(.int (f 1))]))
  refine OwnGo.fwd (fun tq' kq' => XS.iloadN X0.here hx rfl (hb hby d7_32) rfl kq') ?_
  show OwnGo _ _ _ _ (s₁.setTop (mkF m 33 #[.val (.ref d), .val (.int (0 : Int32)), .val (.int (3 : Int32)), .val (.int x), .val (.int (0 : Int32)), .val (.int (2 : Int32)), .val (.int (1 : Int32)), .val (.int (f 1))] [(.int x), (.int (f 1))]))
  by_cases hc33_2 : (f 1).toInt < x.toInt
  · refine OwnGo.fwd (fun tq' kq' => XS.icmpNo X0.here hx rfl (hb hby d7_33) rfl (own_blt rfl rfl hc33_2).2.1 kq') ?_
    show OwnGo _ _ _ _ (s₁.setTop (mkF m 36 #[.val (.ref d), .val (.int (0 : Int32)), .val (.int (3 : Int32)), .val (.int x), .val (.int (0 : Int32)), .val (.int (2 : Int32)), .val (.int (1 : Int32)), .val (.int (f 1))] []))
    refine OwnGo.fwd (fun tq' kq' => XS.iload X0.here hx rfl (hb hby d7_36) rfl kq') ?_
    show OwnGo _ _ _ _ (s₁.setTop (mkF m 38 #[.val (.ref d), .val (.int (0 : Int32)), .val (.int (3 : Int32)), .val (.int x), .val (.int (0 : Int32)), .val (.int (2 : Int32)), .val (.int (1 : Int32)), .val (.int (f 1))] [(.int (1 : Int32))]))
    refine OwnGo.fwd (fun tq' kq' => XS.iconst X0.here hx rfl (hb hby d7_38) kq') ?_
    show OwnGo _ _ _ _ (s₁.setTop (mkF m 39 #[.val (.ref d), .val (.int (0 : Int32)), .val (.int (3 : Int32)), .val (.int x), .val (.int (0 : Int32)), .val (.int (2 : Int32)), .val (.int (1 : Int32)), .val (.int (f 1))] [(.int (1 : Int32)), (.int (1 : Int32))]))
    refine OwnGo.fwd (fun tq' kq' => XS.iadd X0.here hx rfl (hb hby d7_39) rfl kq') ?_
    show OwnGo _ _ _ _ (s₁.setTop (mkF m 40 #[.val (.ref d), .val (.int (0 : Int32)), .val (.int (3 : Int32)), .val (.int x), .val (.int (0 : Int32)), .val (.int (2 : Int32)), .val (.int (1 : Int32)), .val (.int (f 1))] [(.int (2 : Int32))]))
    refine OwnGo.fwd (fun tq' kq' => XS.istore X0.here hx rfl (hb hby d7_40) rfl (l' := #[.val (.ref d), .val (.int (0 : Int32)), .val (.int (3 : Int32)), .val (.int x), .val (.int (2 : Int32)), .val (.int (2 : Int32)), .val (.int (1 : Int32)), .val (.int (f 1))]) rfl kq') ?_
    show OwnGo _ _ _ _ (s₁.setTop (mkF m 42 #[.val (.ref d), .val (.int (0 : Int32)), .val (.int (3 : Int32)), .val (.int x), .val (.int (2 : Int32)), .val (.int (2 : Int32)), .val (.int (1 : Int32)), .val (.int (f 1))] []))
    refine OwnGo.fwd (fun tq' kq' => XS.goto X0.here hx rfl (pc0 := 42) (pc' := 63) rfl (hb hby d7_42) (by decide) (by decide) kq') ?_
    show OwnGo _ _ _ _ (s₁.setTop (mkF m 63 #[.val (.ref d), .val (.int (0 : Int32)), .val (.int (3 : Int32)), .val (.int x), .val (.int (2 : Int32)), .val (.int (2 : Int32)), .val (.int (1 : Int32)), .val (.int (f 1))] []))
    refine OwnGo.fwd (fun tq' kq' => XS.goto X0.here hx rfl (pc0 := 63) (pc' := 8) rfl (hb hby d7_63) (by decide) (by decide) kq') ?_
    show OwnGo _ _ _ _ (s₁.setTop (mkF m 8 #[.val (.ref d), .val (.int (0 : Int32)), .val (.int (3 : Int32)), .val (.int x), .val (.int (2 : Int32)), .val (.int (2 : Int32)), .val (.int (1 : Int32)), .val (.int (f 1))] []))
    refine OwnGo.fwd (fun tq' kq' => XS.iload X0.here hx rfl (hb hby d7_8) rfl kq') ?_
    show OwnGo _ _ _ _ (s₁.setTop (mkF m 10 #[.val (.ref d), .val (.int (0 : Int32)), .val (.int (3 : Int32)), .val (.int x), .val (.int (2 : Int32)), .val (.int (2 : Int32)), .val (.int (1 : Int32)), .val (.int (f 1))] [(.int (2 : Int32))]))
    refine OwnGo.fwd (fun tq' kq' => XS.iload X0.here hx rfl (hb hby d7_10) rfl kq') ?_
    show OwnGo _ _ _ _ (s₁.setTop (mkF m 12 #[.val (.ref d), .val (.int (0 : Int32)), .val (.int (3 : Int32)), .val (.int x), .val (.int (2 : Int32)), .val (.int (2 : Int32)), .val (.int (1 : Int32)), .val (.int (f 1))] [(.int (2 : Int32)), (.int (2 : Int32))]))
    have hc12_3 : ¬ ((2 : Int) < (2 : Int)) := by decide
    refine OwnGo.fwd (fun tq' kq' => XS.icmpNo X0.here hx rfl (hb hby d7_12) rfl (own_bnlt (by decide) (by decide) hc12_3).2.2.1 kq') ?_
    show OwnGo _ _ _ _ (s₁.setTop (mkF m 15 #[.val (.ref d), .val (.int (0 : Int32)), .val (.int (3 : Int32)), .val (.int x), .val (.int (2 : Int32)), .val (.int (2 : Int32)), .val (.int (1 : Int32)), .val (.int (f 1))] []))
    refine OwnGo.fwd (fun tq' kq' => XS.iload X0.here hx rfl (hb hby d7_15) rfl kq') ?_
    show OwnGo _ _ _ _ (s₁.setTop (mkF m 17 #[.val (.ref d), .val (.int (0 : Int32)), .val (.int (3 : Int32)), .val (.int x), .val (.int (2 : Int32)), .val (.int (2 : Int32)), .val (.int (1 : Int32)), .val (.int (f 1))] [(.int (2 : Int32))]))
    refine OwnGo.fwd (fun tq' kq' => XS.iload X0.here hx rfl (hb hby d7_17) rfl kq') ?_
    show OwnGo _ _ _ _ (s₁.setTop (mkF m 19 #[.val (.ref d), .val (.int (0 : Int32)), .val (.int (3 : Int32)), .val (.int x), .val (.int (2 : Int32)), .val (.int (2 : Int32)), .val (.int (1 : Int32)), .val (.int (f 1))] [(.int (2 : Int32)), (.int (2 : Int32))]))
    refine OwnGo.fwd (fun tq' kq' => XS.iadd X0.here hx rfl (hb hby d7_19) rfl kq') ?_
    show OwnGo _ _ _ _ (s₁.setTop (mkF m 20 #[.val (.ref d), .val (.int (0 : Int32)), .val (.int (3 : Int32)), .val (.int x), .val (.int (2 : Int32)), .val (.int (2 : Int32)), .val (.int (1 : Int32)), .val (.int (f 1))] [(.int (4 : Int32))]))
    refine OwnGo.fwd (fun tq' kq' => XS.iconst X0.here hx rfl (hb hby d7_20) kq') ?_
    show OwnGo _ _ _ _ (s₁.setTop (mkF m 21 #[.val (.ref d), .val (.int (0 : Int32)), .val (.int (3 : Int32)), .val (.int x), .val (.int (2 : Int32)), .val (.int (2 : Int32)), .val (.int (1 : Int32)), .val (.int (f 1))] [(.int (1 : Int32)), (.int (4 : Int32))]))
    refine OwnGo.fwd (fun tq' kq' => XS.iushr X0.here hx rfl (hb hby d7_21) rfl kq') ?_
    show OwnGo _ _ _ _ (s₁.setTop (mkF m 22 #[.val (.ref d), .val (.int (0 : Int32)), .val (.int (3 : Int32)), .val (.int x), .val (.int (2 : Int32)), .val (.int (2 : Int32)), .val (.int (1 : Int32)), .val (.int (f 1))] [(.int (2 : Int32))]))
    refine OwnGo.fwd (fun tq' kq' => XS.istore X0.here hx rfl (hb hby d7_22) rfl (l' := #[.val (.ref d), .val (.int (0 : Int32)), .val (.int (3 : Int32)), .val (.int x), .val (.int (2 : Int32)), .val (.int (2 : Int32)), .val (.int (2 : Int32)), .val (.int (f 1))]) rfl kq') ?_
    show OwnGo _ _ _ _ (s₁.setTop (mkF m 24 #[.val (.ref d), .val (.int (0 : Int32)), .val (.int (3 : Int32)), .val (.int x), .val (.int (2 : Int32)), .val (.int (2 : Int32)), .val (.int (2 : Int32)), .val (.int (f 1))] []))
    refine OwnGo.fwd (fun tq' kq' => XS.aloadN X0.here hx rfl (hb hby d7_24) rfl rfl kq') ?_
    show OwnGo _ _ _ _ (s₁.setTop (mkF m 25 #[.val (.ref d), .val (.int (0 : Int32)), .val (.int (3 : Int32)), .val (.int x), .val (.int (2 : Int32)), .val (.int (2 : Int32)), .val (.int (2 : Int32)), .val (.int (f 1))] [(.ref d)]))
    refine OwnGo.fwd (fun tq' kq' => XS.iload X0.here hx rfl (hb hby d7_25) rfl kq') ?_
    show OwnGo _ _ _ _ (s₁.setTop (mkF m 27 #[.val (.ref d), .val (.int (0 : Int32)), .val (.int (3 : Int32)), .val (.int x), .val (.int (2 : Int32)), .val (.int (2 : Int32)), .val (.int (2 : Int32)), .val (.int (f 1))] [(.int (2 : Int32)), (.ref d)]))
    refine OwnGo.fwd (fun tq' kq' => own_iaload X0 hx hZ e0 V_d (i := 2) (by decide) (by omega) (g := (mkF m 27 #[.val (.ref d), .val (.int (0 : Int32)), .val (.int (3 : Int32)), .val (.int x), .val (.int (2 : Int32)), .val (.int (2 : Int32)), .val (.int (2 : Int32)), .val (.int (f 1))] [(.int (2 : Int32)), (.ref d)])) rfl rfl (hb hby d7_27) tq' kq') ?_
    show OwnGo _ _ _ _ (s₁.setTop (mkF m 28 #[.val (.ref d), .val (.int (0 : Int32)), .val (.int (3 : Int32)), .val (.int x), .val (.int (2 : Int32)), .val (.int (2 : Int32)), .val (.int (2 : Int32)), .val (.int (f 1))] [(.int (f 2))]))
    refine OwnGo.fwd (fun tq' kq' => XS.istore X0.here hx rfl (hb hby d7_28) rfl (l' := #[.val (.ref d), .val (.int (0 : Int32)), .val (.int (3 : Int32)), .val (.int x), .val (.int (2 : Int32)), .val (.int (2 : Int32)), .val (.int (2 : Int32)), .val (.int (f 2))]) rfl kq') ?_
    show OwnGo _ _ _ _ (s₁.setTop (mkF m 30 #[.val (.ref d), .val (.int (0 : Int32)), .val (.int (3 : Int32)), .val (.int x), .val (.int (2 : Int32)), .val (.int (2 : Int32)), .val (.int (2 : Int32)), .val (.int (f 2))] []))
    refine OwnGo.fwd (fun tq' kq' => XS.iload X0.here hx rfl (hb hby d7_30) rfl kq') ?_
    show OwnGo _ _ _ _ (s₁.setTop (mkF m 32 #[.val (.ref d), .val (.int (0 : Int32)), .val (.int (3 : Int32)), .val (.int x), .val (.int (2 : Int32)), .val (.int (2 : Int32)), .val (.int (2 : Int32)), .val (.int (f 2))] [(.int (f 2))]))
    refine OwnGo.fwd (fun tq' kq' => XS.iloadN X0.here hx rfl (hb hby d7_32) rfl kq') ?_
    show OwnGo _ _ _ _ (s₁.setTop (mkF m 33 #[.val (.ref d), .val (.int (0 : Int32)), .val (.int (3 : Int32)), .val (.int x), .val (.int (2 : Int32)), .val (.int (2 : Int32)), .val (.int (2 : Int32)), .val (.int (f 2))] [(.int x), (.int (f 2))]))
    by_cases hc33_4 : (f 2).toInt < x.toInt
    · refine OwnGo.fwd (fun tq' kq' => XS.icmpNo X0.here hx rfl (hb hby d7_33) rfl (own_blt rfl rfl hc33_4).2.1 kq') ?_
      show OwnGo _ _ _ _ (s₁.setTop (mkF m 36 #[.val (.ref d), .val (.int (0 : Int32)), .val (.int (3 : Int32)), .val (.int x), .val (.int (2 : Int32)), .val (.int (2 : Int32)), .val (.int (2 : Int32)), .val (.int (f 2))] []))
      refine OwnGo.fwd (fun tq' kq' => XS.iload X0.here hx rfl (hb hby d7_36) rfl kq') ?_
      show OwnGo _ _ _ _ (s₁.setTop (mkF m 38 #[.val (.ref d), .val (.int (0 : Int32)), .val (.int (3 : Int32)), .val (.int x), .val (.int (2 : Int32)), .val (.int (2 : Int32)), .val (.int (2 : Int32)), .val (.int (f 2))] [(.int (2 : Int32))]))
      refine OwnGo.fwd (fun tq' kq' => XS.iconst X0.here hx rfl (hb hby d7_38) kq') ?_
      show OwnGo _ _ _ _ (s₁.setTop (mkF m 39 #[.val (.ref d), .val (.int (0 : Int32)), .val (.int (3 : Int32)), .val (.int x), .val (.int (2 : Int32)), .val (.int (2 : Int32)), .val (.int (2 : Int32)), .val (.int (f 2))] [(.int (1 : Int32)), (.int (2 : Int32))]))
      refine OwnGo.fwd (fun tq' kq' => XS.iadd X0.here hx rfl (hb hby d7_39) rfl kq') ?_
      show OwnGo _ _ _ _ (s₁.setTop (mkF m 40 #[.val (.ref d), .val (.int (0 : Int32)), .val (.int (3 : Int32)), .val (.int x), .val (.int (2 : Int32)), .val (.int (2 : Int32)), .val (.int (2 : Int32)), .val (.int (f 2))] [(.int (3 : Int32))]))
      refine OwnGo.fwd (fun tq' kq' => XS.istore X0.here hx rfl (hb hby d7_40) rfl (l' := #[.val (.ref d), .val (.int (0 : Int32)), .val (.int (3 : Int32)), .val (.int x), .val (.int (3 : Int32)), .val (.int (2 : Int32)), .val (.int (2 : Int32)), .val (.int (f 2))]) rfl kq') ?_
      show OwnGo _ _ _ _ (s₁.setTop (mkF m 42 #[.val (.ref d), .val (.int (0 : Int32)), .val (.int (3 : Int32)), .val (.int x), .val (.int (3 : Int32)), .val (.int (2 : Int32)), .val (.int (2 : Int32)), .val (.int (f 2))] []))
      refine OwnGo.fwd (fun tq' kq' => XS.goto X0.here hx rfl (pc0 := 42) (pc' := 63) rfl (hb hby d7_42) (by decide) (by decide) kq') ?_
      show OwnGo _ _ _ _ (s₁.setTop (mkF m 63 #[.val (.ref d), .val (.int (0 : Int32)), .val (.int (3 : Int32)), .val (.int x), .val (.int (3 : Int32)), .val (.int (2 : Int32)), .val (.int (2 : Int32)), .val (.int (f 2))] []))
      refine OwnGo.fwd (fun tq' kq' => XS.goto X0.here hx rfl (pc0 := 63) (pc' := 8) rfl (hb hby d7_63) (by decide) (by decide) kq') ?_
      show OwnGo _ _ _ _ (s₁.setTop (mkF m 8 #[.val (.ref d), .val (.int (0 : Int32)), .val (.int (3 : Int32)), .val (.int x), .val (.int (3 : Int32)), .val (.int (2 : Int32)), .val (.int (2 : Int32)), .val (.int (f 2))] []))
      refine OwnGo.fwd (fun tq' kq' => XS.iload X0.here hx rfl (hb hby d7_8) rfl kq') ?_
      show OwnGo _ _ _ _ (s₁.setTop (mkF m 10 #[.val (.ref d), .val (.int (0 : Int32)), .val (.int (3 : Int32)), .val (.int x), .val (.int (3 : Int32)), .val (.int (2 : Int32)), .val (.int (2 : Int32)), .val (.int (f 2))] [(.int (3 : Int32))]))
      refine OwnGo.fwd (fun tq' kq' => XS.iload X0.here hx rfl (hb hby d7_10) rfl kq') ?_
      show OwnGo _ _ _ _ (s₁.setTop (mkF m 12 #[.val (.ref d), .val (.int (0 : Int32)), .val (.int (3 : Int32)), .val (.int x), .val (.int (3 : Int32)), .val (.int (2 : Int32)), .val (.int (2 : Int32)), .val (.int (f 2))] [(.int (2 : Int32)), (.int (3 : Int32))]))
      have hc12_5 : (2 : Int) < (3 : Int) := by decide
      refine OwnGo.fwd (fun tq' kq' => XS.icmpYes X0.here hx rfl (pc0 := 12) (pc' := 66) rfl (hb hby d7_12) rfl (own_blt (by decide) (by decide) hc12_5).2.2.1 (by decide) (by decide) kq') ?_
      show OwnGo _ _ _ _ (s₁.setTop (mkF m 66 #[.val (.ref d), .val (.int (0 : Int32)), .val (.int (3 : Int32)), .val (.int x), .val (.int (3 : Int32)), .val (.int (2 : Int32)), .val (.int (2 : Int32)), .val (.int (f 2))] []))
      refine OwnGo.fwd (fun tq' kq' => XS.iload X0.here hx rfl (hb hby d7_66) rfl kq') ?_
      show OwnGo _ _ _ _ (s₁.setTop (mkF m 68 #[.val (.ref d), .val (.int (0 : Int32)), .val (.int (3 : Int32)), .val (.int x), .val (.int (3 : Int32)), .val (.int (2 : Int32)), .val (.int (2 : Int32)), .val (.int (f 2))] [(.int (3 : Int32))]))
      refine OwnGo.fwd (fun tq' kq' => XS.iconst X0.here hx rfl (hb hby d7_68) kq') ?_
      show OwnGo _ _ _ _ (s₁.setTop (mkF m 69 #[.val (.ref d), .val (.int (0 : Int32)), .val (.int (3 : Int32)), .val (.int x), .val (.int (3 : Int32)), .val (.int (2 : Int32)), .val (.int (2 : Int32)), .val (.int (f 2))] [(.int (1 : Int32)), (.int (3 : Int32))]))
      refine OwnGo.fwd (fun tq' kq' => XS.iadd X0.here hx rfl (hb hby d7_69) rfl kq') ?_
      show OwnGo _ _ _ _ (s₁.setTop (mkF m 70 #[.val (.ref d), .val (.int (0 : Int32)), .val (.int (3 : Int32)), .val (.int x), .val (.int (3 : Int32)), .val (.int (2 : Int32)), .val (.int (2 : Int32)), .val (.int (f 2))] [(.int (4 : Int32))]))
      refine OwnGo.fwd (fun tq' kq' => XS.ineg X0.here hx rfl (hb hby d7_70) rfl kq') ?_
      show OwnGo _ _ _ _ (s₁.setTop (mkF m 71 #[.val (.ref d), .val (.int (0 : Int32)), .val (.int (3 : Int32)), .val (.int x), .val (.int (3 : Int32)), .val (.int (2 : Int32)), .val (.int (2 : Int32)), .val (.int (f 2))] [(.int (-4 : Int32))]))
      exact own_retI X0 hlk hx Bd.returns (hb hby d7_71) (by decide) (by decide) e0 ⟨N, rfl, _, rfl, Or.inr ⟨by decide, fun i hi => by
          have : i = 0 ∨ i = 1 ∨ i = 2 := by omega
          rcases this with rfl | rfl | rfl <;> omega⟩⟩
    · refine OwnGo.fwd (fun tq' kq' => XS.icmpYes X0.here hx rfl (pc0 := 33) (pc' := 45) rfl (hb hby d7_33) rfl (own_bnlt rfl rfl hc33_4).2.1 (by decide) (by decide) kq') ?_
      show OwnGo _ _ _ _ (s₁.setTop (mkF m 45 #[.val (.ref d), .val (.int (0 : Int32)), .val (.int (3 : Int32)), .val (.int x), .val (.int (2 : Int32)), .val (.int (2 : Int32)), .val (.int (2 : Int32)), .val (.int (f 2))] []))
      refine OwnGo.fwd (fun tq' kq' => XS.iload X0.here hx rfl (hb hby d7_45) rfl kq') ?_
      show OwnGo _ _ _ _ (s₁.setTop (mkF m 47 #[.val (.ref d), .val (.int (0 : Int32)), .val (.int (3 : Int32)), .val (.int x), .val (.int (2 : Int32)), .val (.int (2 : Int32)), .val (.int (2 : Int32)), .val (.int (f 2))] [(.int (f 2))]))
      refine OwnGo.fwd (fun tq' kq' => XS.iloadN X0.here hx rfl (hb hby d7_47) rfl kq') ?_
      show OwnGo _ _ _ _ (s₁.setTop (mkF m 48 #[.val (.ref d), .val (.int (0 : Int32)), .val (.int (3 : Int32)), .val (.int x), .val (.int (2 : Int32)), .val (.int (2 : Int32)), .val (.int (2 : Int32)), .val (.int (f 2))] [(.int x), (.int (f 2))]))
      by_cases hc48_6 : x.toInt < (f 2).toInt
      · refine OwnGo.fwd (fun tq' kq' => XS.icmpNo X0.here hx rfl (hb hby d7_48) rfl (own_blt rfl rfl hc48_6).2.2.2 kq') ?_
        show OwnGo _ _ _ _ (s₁.setTop (mkF m 51 #[.val (.ref d), .val (.int (0 : Int32)), .val (.int (3 : Int32)), .val (.int x), .val (.int (2 : Int32)), .val (.int (2 : Int32)), .val (.int (2 : Int32)), .val (.int (f 2))] []))
        refine OwnGo.fwd (fun tq' kq' => XS.iload X0.here hx rfl (hb hby d7_51) rfl kq') ?_
        show OwnGo _ _ _ _ (s₁.setTop (mkF m 53 #[.val (.ref d), .val (.int (0 : Int32)), .val (.int (3 : Int32)), .val (.int x), .val (.int (2 : Int32)), .val (.int (2 : Int32)), .val (.int (2 : Int32)), .val (.int (f 2))] [(.int (2 : Int32))]))
        refine OwnGo.fwd (fun tq' kq' => XS.iconst X0.here hx rfl (hb hby d7_53) kq') ?_
        show OwnGo _ _ _ _ (s₁.setTop (mkF m 54 #[.val (.ref d), .val (.int (0 : Int32)), .val (.int (3 : Int32)), .val (.int x), .val (.int (2 : Int32)), .val (.int (2 : Int32)), .val (.int (2 : Int32)), .val (.int (f 2))] [(.int (1 : Int32)), (.int (2 : Int32))]))
        refine OwnGo.fwd (fun tq' kq' => XS.isub X0.here hx rfl (hb hby d7_54) rfl kq') ?_
        show OwnGo _ _ _ _ (s₁.setTop (mkF m 55 #[.val (.ref d), .val (.int (0 : Int32)), .val (.int (3 : Int32)), .val (.int x), .val (.int (2 : Int32)), .val (.int (2 : Int32)), .val (.int (2 : Int32)), .val (.int (f 2))] [(.int (1 : Int32))]))
        refine OwnGo.fwd (fun tq' kq' => XS.istore X0.here hx rfl (hb hby d7_55) rfl (l' := #[.val (.ref d), .val (.int (0 : Int32)), .val (.int (3 : Int32)), .val (.int x), .val (.int (2 : Int32)), .val (.int (1 : Int32)), .val (.int (2 : Int32)), .val (.int (f 2))]) rfl kq') ?_
        show OwnGo _ _ _ _ (s₁.setTop (mkF m 57 #[.val (.ref d), .val (.int (0 : Int32)), .val (.int (3 : Int32)), .val (.int x), .val (.int (2 : Int32)), .val (.int (1 : Int32)), .val (.int (2 : Int32)), .val (.int (f 2))] []))
        refine OwnGo.fwd (fun tq' kq' => XS.goto X0.here hx rfl (pc0 := 57) (pc' := 63) rfl (hb hby d7_57) (by decide) (by decide) kq') ?_
        show OwnGo _ _ _ _ (s₁.setTop (mkF m 63 #[.val (.ref d), .val (.int (0 : Int32)), .val (.int (3 : Int32)), .val (.int x), .val (.int (2 : Int32)), .val (.int (1 : Int32)), .val (.int (2 : Int32)), .val (.int (f 2))] []))
        refine OwnGo.fwd (fun tq' kq' => XS.goto X0.here hx rfl (pc0 := 63) (pc' := 8) rfl (hb hby d7_63) (by decide) (by decide) kq') ?_
        show OwnGo _ _ _ _ (s₁.setTop (mkF m 8 #[.val (.ref d), .val (.int (0 : Int32)), .val (.int (3 : Int32)), .val (.int x), .val (.int (2 : Int32)), .val (.int (1 : Int32)), .val (.int (2 : Int32)), .val (.int (f 2))] []))
        refine OwnGo.fwd (fun tq' kq' => XS.iload X0.here hx rfl (hb hby d7_8) rfl kq') ?_
        show OwnGo _ _ _ _ (s₁.setTop (mkF m 10 #[.val (.ref d), .val (.int (0 : Int32)), .val (.int (3 : Int32)), .val (.int x), .val (.int (2 : Int32)), .val (.int (1 : Int32)), .val (.int (2 : Int32)), .val (.int (f 2))] [(.int (2 : Int32))]))
        refine OwnGo.fwd (fun tq' kq' => XS.iload X0.here hx rfl (hb hby d7_10) rfl kq') ?_
        show OwnGo _ _ _ _ (s₁.setTop (mkF m 12 #[.val (.ref d), .val (.int (0 : Int32)), .val (.int (3 : Int32)), .val (.int x), .val (.int (2 : Int32)), .val (.int (1 : Int32)), .val (.int (2 : Int32)), .val (.int (f 2))] [(.int (1 : Int32)), (.int (2 : Int32))]))
        have hc12_7 : (1 : Int) < (2 : Int) := by decide
        refine OwnGo.fwd (fun tq' kq' => XS.icmpYes X0.here hx rfl (pc0 := 12) (pc' := 66) rfl (hb hby d7_12) rfl (own_blt (by decide) (by decide) hc12_7).2.2.1 (by decide) (by decide) kq') ?_
        show OwnGo _ _ _ _ (s₁.setTop (mkF m 66 #[.val (.ref d), .val (.int (0 : Int32)), .val (.int (3 : Int32)), .val (.int x), .val (.int (2 : Int32)), .val (.int (1 : Int32)), .val (.int (2 : Int32)), .val (.int (f 2))] []))
        refine OwnGo.fwd (fun tq' kq' => XS.iload X0.here hx rfl (hb hby d7_66) rfl kq') ?_
        show OwnGo _ _ _ _ (s₁.setTop (mkF m 68 #[.val (.ref d), .val (.int (0 : Int32)), .val (.int (3 : Int32)), .val (.int x), .val (.int (2 : Int32)), .val (.int (1 : Int32)), .val (.int (2 : Int32)), .val (.int (f 2))] [(.int (2 : Int32))]))
        refine OwnGo.fwd (fun tq' kq' => XS.iconst X0.here hx rfl (hb hby d7_68) kq') ?_
        show OwnGo _ _ _ _ (s₁.setTop (mkF m 69 #[.val (.ref d), .val (.int (0 : Int32)), .val (.int (3 : Int32)), .val (.int x), .val (.int (2 : Int32)), .val (.int (1 : Int32)), .val (.int (2 : Int32)), .val (.int (f 2))] [(.int (1 : Int32)), (.int (2 : Int32))]))
        refine OwnGo.fwd (fun tq' kq' => XS.iadd X0.here hx rfl (hb hby d7_69) rfl kq') ?_
        show OwnGo _ _ _ _ (s₁.setTop (mkF m 70 #[.val (.ref d), .val (.int (0 : Int32)), .val (.int (3 : Int32)), .val (.int x), .val (.int (2 : Int32)), .val (.int (1 : Int32)), .val (.int (2 : Int32)), .val (.int (f 2))] [(.int (3 : Int32))]))
        refine OwnGo.fwd (fun tq' kq' => XS.ineg X0.here hx rfl (hb hby d7_70) rfl kq') ?_
        show OwnGo _ _ _ _ (s₁.setTop (mkF m 71 #[.val (.ref d), .val (.int (0 : Int32)), .val (.int (3 : Int32)), .val (.int x), .val (.int (2 : Int32)), .val (.int (1 : Int32)), .val (.int (2 : Int32)), .val (.int (f 2))] [(.int (-3 : Int32))]))
        exact own_retI X0 hlk hx Bd.returns (hb hby d7_71) (by decide) (by decide) e0 ⟨N, rfl, _, rfl, Or.inr ⟨by decide, fun i hi => by
            have : i = 0 ∨ i = 1 ∨ i = 2 := by omega
            rcases this with rfl | rfl | rfl <;> omega⟩⟩
      · refine OwnGo.fwd (fun tq' kq' => XS.icmpYes X0.here hx rfl (pc0 := 48) (pc' := 60) rfl (hb hby d7_48) rfl (own_bnlt rfl rfl hc48_6).2.2.2 (by decide) (by decide) kq') ?_
        show OwnGo _ _ _ _ (s₁.setTop (mkF m 60 #[.val (.ref d), .val (.int (0 : Int32)), .val (.int (3 : Int32)), .val (.int x), .val (.int (2 : Int32)), .val (.int (2 : Int32)), .val (.int (2 : Int32)), .val (.int (f 2))] []))
        refine OwnGo.fwd (fun tq' kq' => XS.iload X0.here hx rfl (hb hby d7_60) rfl kq') ?_
        show OwnGo _ _ _ _ (s₁.setTop (mkF m 62 #[.val (.ref d), .val (.int (0 : Int32)), .val (.int (3 : Int32)), .val (.int x), .val (.int (2 : Int32)), .val (.int (2 : Int32)), .val (.int (2 : Int32)), .val (.int (f 2))] [(.int (2 : Int32))]))
        exact own_retI X0 hlk hx Bd.returns (hb hby d7_62) (by decide) (by decide) e0 ⟨N, rfl, _, rfl, Or.inl ⟨2, by decide, by decide, by omega⟩⟩
  · refine OwnGo.fwd (fun tq' kq' => XS.icmpYes X0.here hx rfl (pc0 := 33) (pc' := 45) rfl (hb hby d7_33) rfl (own_bnlt rfl rfl hc33_2).2.1 (by decide) (by decide) kq') ?_
    show OwnGo _ _ _ _ (s₁.setTop (mkF m 45 #[.val (.ref d), .val (.int (0 : Int32)), .val (.int (3 : Int32)), .val (.int x), .val (.int (0 : Int32)), .val (.int (2 : Int32)), .val (.int (1 : Int32)), .val (.int (f 1))] []))
    refine OwnGo.fwd (fun tq' kq' => XS.iload X0.here hx rfl (hb hby d7_45) rfl kq') ?_
    show OwnGo _ _ _ _ (s₁.setTop (mkF m 47 #[.val (.ref d), .val (.int (0 : Int32)), .val (.int (3 : Int32)), .val (.int x), .val (.int (0 : Int32)), .val (.int (2 : Int32)), .val (.int (1 : Int32)), .val (.int (f 1))] [(.int (f 1))]))
    refine OwnGo.fwd (fun tq' kq' => XS.iloadN X0.here hx rfl (hb hby d7_47) rfl kq') ?_
    show OwnGo _ _ _ _ (s₁.setTop (mkF m 48 #[.val (.ref d), .val (.int (0 : Int32)), .val (.int (3 : Int32)), .val (.int x), .val (.int (0 : Int32)), .val (.int (2 : Int32)), .val (.int (1 : Int32)), .val (.int (f 1))] [(.int x), (.int (f 1))]))
    by_cases hc48_8 : x.toInt < (f 1).toInt
    · refine OwnGo.fwd (fun tq' kq' => XS.icmpNo X0.here hx rfl (hb hby d7_48) rfl (own_blt rfl rfl hc48_8).2.2.2 kq') ?_
      show OwnGo _ _ _ _ (s₁.setTop (mkF m 51 #[.val (.ref d), .val (.int (0 : Int32)), .val (.int (3 : Int32)), .val (.int x), .val (.int (0 : Int32)), .val (.int (2 : Int32)), .val (.int (1 : Int32)), .val (.int (f 1))] []))
      refine OwnGo.fwd (fun tq' kq' => XS.iload X0.here hx rfl (hb hby d7_51) rfl kq') ?_
      show OwnGo _ _ _ _ (s₁.setTop (mkF m 53 #[.val (.ref d), .val (.int (0 : Int32)), .val (.int (3 : Int32)), .val (.int x), .val (.int (0 : Int32)), .val (.int (2 : Int32)), .val (.int (1 : Int32)), .val (.int (f 1))] [(.int (1 : Int32))]))
      refine OwnGo.fwd (fun tq' kq' => XS.iconst X0.here hx rfl (hb hby d7_53) kq') ?_
      show OwnGo _ _ _ _ (s₁.setTop (mkF m 54 #[.val (.ref d), .val (.int (0 : Int32)), .val (.int (3 : Int32)), .val (.int x), .val (.int (0 : Int32)), .val (.int (2 : Int32)), .val (.int (1 : Int32)), .val (.int (f 1))] [(.int (1 : Int32)), (.int (1 : Int32))]))
      refine OwnGo.fwd (fun tq' kq' => XS.isub X0.here hx rfl (hb hby d7_54) rfl kq') ?_
      show OwnGo _ _ _ _ (s₁.setTop (mkF m 55 #[.val (.ref d), .val (.int (0 : Int32)), .val (.int (3 : Int32)), .val (.int x), .val (.int (0 : Int32)), .val (.int (2 : Int32)), .val (.int (1 : Int32)), .val (.int (f 1))] [(.int (0 : Int32))]))
      refine OwnGo.fwd (fun tq' kq' => XS.istore X0.here hx rfl (hb hby d7_55) rfl (l' := #[.val (.ref d), .val (.int (0 : Int32)), .val (.int (3 : Int32)), .val (.int x), .val (.int (0 : Int32)), .val (.int (0 : Int32)), .val (.int (1 : Int32)), .val (.int (f 1))]) rfl kq') ?_
      show OwnGo _ _ _ _ (s₁.setTop (mkF m 57 #[.val (.ref d), .val (.int (0 : Int32)), .val (.int (3 : Int32)), .val (.int x), .val (.int (0 : Int32)), .val (.int (0 : Int32)), .val (.int (1 : Int32)), .val (.int (f 1))] []))
      refine OwnGo.fwd (fun tq' kq' => XS.goto X0.here hx rfl (pc0 := 57) (pc' := 63) rfl (hb hby d7_57) (by decide) (by decide) kq') ?_
      show OwnGo _ _ _ _ (s₁.setTop (mkF m 63 #[.val (.ref d), .val (.int (0 : Int32)), .val (.int (3 : Int32)), .val (.int x), .val (.int (0 : Int32)), .val (.int (0 : Int32)), .val (.int (1 : Int32)), .val (.int (f 1))] []))
      refine OwnGo.fwd (fun tq' kq' => XS.goto X0.here hx rfl (pc0 := 63) (pc' := 8) rfl (hb hby d7_63) (by decide) (by decide) kq') ?_
      show OwnGo _ _ _ _ (s₁.setTop (mkF m 8 #[.val (.ref d), .val (.int (0 : Int32)), .val (.int (3 : Int32)), .val (.int x), .val (.int (0 : Int32)), .val (.int (0 : Int32)), .val (.int (1 : Int32)), .val (.int (f 1))] []))
      refine OwnGo.fwd (fun tq' kq' => XS.iload X0.here hx rfl (hb hby d7_8) rfl kq') ?_
      show OwnGo _ _ _ _ (s₁.setTop (mkF m 10 #[.val (.ref d), .val (.int (0 : Int32)), .val (.int (3 : Int32)), .val (.int x), .val (.int (0 : Int32)), .val (.int (0 : Int32)), .val (.int (1 : Int32)), .val (.int (f 1))] [(.int (0 : Int32))]))
      refine OwnGo.fwd (fun tq' kq' => XS.iload X0.here hx rfl (hb hby d7_10) rfl kq') ?_
      show OwnGo _ _ _ _ (s₁.setTop (mkF m 12 #[.val (.ref d), .val (.int (0 : Int32)), .val (.int (3 : Int32)), .val (.int x), .val (.int (0 : Int32)), .val (.int (0 : Int32)), .val (.int (1 : Int32)), .val (.int (f 1))] [(.int (0 : Int32)), (.int (0 : Int32))]))
      have hc12_9 : ¬ ((0 : Int) < (0 : Int)) := by decide
      refine OwnGo.fwd (fun tq' kq' => XS.icmpNo X0.here hx rfl (hb hby d7_12) rfl (own_bnlt (by decide) (by decide) hc12_9).2.2.1 kq') ?_
      show OwnGo _ _ _ _ (s₁.setTop (mkF m 15 #[.val (.ref d), .val (.int (0 : Int32)), .val (.int (3 : Int32)), .val (.int x), .val (.int (0 : Int32)), .val (.int (0 : Int32)), .val (.int (1 : Int32)), .val (.int (f 1))] []))
      refine OwnGo.fwd (fun tq' kq' => XS.iload X0.here hx rfl (hb hby d7_15) rfl kq') ?_
      show OwnGo _ _ _ _ (s₁.setTop (mkF m 17 #[.val (.ref d), .val (.int (0 : Int32)), .val (.int (3 : Int32)), .val (.int x), .val (.int (0 : Int32)), .val (.int (0 : Int32)), .val (.int (1 : Int32)), .val (.int (f 1))] [(.int (0 : Int32))]))
      refine OwnGo.fwd (fun tq' kq' => XS.iload X0.here hx rfl (hb hby d7_17) rfl kq') ?_
      show OwnGo _ _ _ _ (s₁.setTop (mkF m 19 #[.val (.ref d), .val (.int (0 : Int32)), .val (.int (3 : Int32)), .val (.int x), .val (.int (0 : Int32)), .val (.int (0 : Int32)), .val (.int (1 : Int32)), .val (.int (f 1))] [(.int (0 : Int32)), (.int (0 : Int32))]))
      refine OwnGo.fwd (fun tq' kq' => XS.iadd X0.here hx rfl (hb hby d7_19) rfl kq') ?_
      show OwnGo _ _ _ _ (s₁.setTop (mkF m 20 #[.val (.ref d), .val (.int (0 : Int32)), .val (.int (3 : Int32)), .val (.int x), .val (.int (0 : Int32)), .val (.int (0 : Int32)), .val (.int (1 : Int32)), .val (.int (f 1))] [(.int (0 : Int32))]))
      refine OwnGo.fwd (fun tq' kq' => XS.iconst X0.here hx rfl (hb hby d7_20) kq') ?_
      show OwnGo _ _ _ _ (s₁.setTop (mkF m 21 #[.val (.ref d), .val (.int (0 : Int32)), .val (.int (3 : Int32)), .val (.int x), .val (.int (0 : Int32)), .val (.int (0 : Int32)), .val (.int (1 : Int32)), .val (.int (f 1))] [(.int (1 : Int32)), (.int (0 : Int32))]))
      refine OwnGo.fwd (fun tq' kq' => XS.iushr X0.here hx rfl (hb hby d7_21) rfl kq') ?_
      show OwnGo _ _ _ _ (s₁.setTop (mkF m 22 #[.val (.ref d), .val (.int (0 : Int32)), .val (.int (3 : Int32)), .val (.int x), .val (.int (0 : Int32)), .val (.int (0 : Int32)), .val (.int (1 : Int32)), .val (.int (f 1))] [(.int (0 : Int32))]))
      refine OwnGo.fwd (fun tq' kq' => XS.istore X0.here hx rfl (hb hby d7_22) rfl (l' := #[.val (.ref d), .val (.int (0 : Int32)), .val (.int (3 : Int32)), .val (.int x), .val (.int (0 : Int32)), .val (.int (0 : Int32)), .val (.int (0 : Int32)), .val (.int (f 1))]) rfl kq') ?_
      show OwnGo _ _ _ _ (s₁.setTop (mkF m 24 #[.val (.ref d), .val (.int (0 : Int32)), .val (.int (3 : Int32)), .val (.int x), .val (.int (0 : Int32)), .val (.int (0 : Int32)), .val (.int (0 : Int32)), .val (.int (f 1))] []))
      refine OwnGo.fwd (fun tq' kq' => XS.aloadN X0.here hx rfl (hb hby d7_24) rfl rfl kq') ?_
      show OwnGo _ _ _ _ (s₁.setTop (mkF m 25 #[.val (.ref d), .val (.int (0 : Int32)), .val (.int (3 : Int32)), .val (.int x), .val (.int (0 : Int32)), .val (.int (0 : Int32)), .val (.int (0 : Int32)), .val (.int (f 1))] [(.ref d)]))
      refine OwnGo.fwd (fun tq' kq' => XS.iload X0.here hx rfl (hb hby d7_25) rfl kq') ?_
      show OwnGo _ _ _ _ (s₁.setTop (mkF m 27 #[.val (.ref d), .val (.int (0 : Int32)), .val (.int (3 : Int32)), .val (.int x), .val (.int (0 : Int32)), .val (.int (0 : Int32)), .val (.int (0 : Int32)), .val (.int (f 1))] [(.int (0 : Int32)), (.ref d)]))
      refine OwnGo.fwd (fun tq' kq' => own_iaload X0 hx hZ e0 V_d (i := 0) (by decide) (by omega) (g := (mkF m 27 #[.val (.ref d), .val (.int (0 : Int32)), .val (.int (3 : Int32)), .val (.int x), .val (.int (0 : Int32)), .val (.int (0 : Int32)), .val (.int (0 : Int32)), .val (.int (f 1))] [(.int (0 : Int32)), (.ref d)])) rfl rfl (hb hby d7_27) tq' kq') ?_
      show OwnGo _ _ _ _ (s₁.setTop (mkF m 28 #[.val (.ref d), .val (.int (0 : Int32)), .val (.int (3 : Int32)), .val (.int x), .val (.int (0 : Int32)), .val (.int (0 : Int32)), .val (.int (0 : Int32)), .val (.int (f 1))] [(.int (f 0))]))
      refine OwnGo.fwd (fun tq' kq' => XS.istore X0.here hx rfl (hb hby d7_28) rfl (l' := #[.val (.ref d), .val (.int (0 : Int32)), .val (.int (3 : Int32)), .val (.int x), .val (.int (0 : Int32)), .val (.int (0 : Int32)), .val (.int (0 : Int32)), .val (.int (f 0))]) rfl kq') ?_
      show OwnGo _ _ _ _ (s₁.setTop (mkF m 30 #[.val (.ref d), .val (.int (0 : Int32)), .val (.int (3 : Int32)), .val (.int x), .val (.int (0 : Int32)), .val (.int (0 : Int32)), .val (.int (0 : Int32)), .val (.int (f 0))] []))
      refine OwnGo.fwd (fun tq' kq' => XS.iload X0.here hx rfl (hb hby d7_30) rfl kq') ?_
      show OwnGo _ _ _ _ (s₁.setTop (mkF m 32 #[.val (.ref d), .val (.int (0 : Int32)), .val (.int (3 : Int32)), .val (.int x), .val (.int (0 : Int32)), .val (.int (0 : Int32)), .val (.int (0 : Int32)), .val (.int (f 0))] [(.int (f 0))]))
      refine OwnGo.fwd (fun tq' kq' => XS.iloadN X0.here hx rfl (hb hby d7_32) rfl kq') ?_
      show OwnGo _ _ _ _ (s₁.setTop (mkF m 33 #[.val (.ref d), .val (.int (0 : Int32)), .val (.int (3 : Int32)), .val (.int x), .val (.int (0 : Int32)), .val (.int (0 : Int32)), .val (.int (0 : Int32)), .val (.int (f 0))] [(.int x), (.int (f 0))]))
      by_cases hc33_10 : (f 0).toInt < x.toInt
      · refine OwnGo.fwd (fun tq' kq' => XS.icmpNo X0.here hx rfl (hb hby d7_33) rfl (own_blt rfl rfl hc33_10).2.1 kq') ?_
        show OwnGo _ _ _ _ (s₁.setTop (mkF m 36 #[.val (.ref d), .val (.int (0 : Int32)), .val (.int (3 : Int32)), .val (.int x), .val (.int (0 : Int32)), .val (.int (0 : Int32)), .val (.int (0 : Int32)), .val (.int (f 0))] []))
        refine OwnGo.fwd (fun tq' kq' => XS.iload X0.here hx rfl (hb hby d7_36) rfl kq') ?_
        show OwnGo _ _ _ _ (s₁.setTop (mkF m 38 #[.val (.ref d), .val (.int (0 : Int32)), .val (.int (3 : Int32)), .val (.int x), .val (.int (0 : Int32)), .val (.int (0 : Int32)), .val (.int (0 : Int32)), .val (.int (f 0))] [(.int (0 : Int32))]))
        refine OwnGo.fwd (fun tq' kq' => XS.iconst X0.here hx rfl (hb hby d7_38) kq') ?_
        show OwnGo _ _ _ _ (s₁.setTop (mkF m 39 #[.val (.ref d), .val (.int (0 : Int32)), .val (.int (3 : Int32)), .val (.int x), .val (.int (0 : Int32)), .val (.int (0 : Int32)), .val (.int (0 : Int32)), .val (.int (f 0))] [(.int (1 : Int32)), (.int (0 : Int32))]))
        refine OwnGo.fwd (fun tq' kq' => XS.iadd X0.here hx rfl (hb hby d7_39) rfl kq') ?_
        show OwnGo _ _ _ _ (s₁.setTop (mkF m 40 #[.val (.ref d), .val (.int (0 : Int32)), .val (.int (3 : Int32)), .val (.int x), .val (.int (0 : Int32)), .val (.int (0 : Int32)), .val (.int (0 : Int32)), .val (.int (f 0))] [(.int (1 : Int32))]))
        refine OwnGo.fwd (fun tq' kq' => XS.istore X0.here hx rfl (hb hby d7_40) rfl (l' := #[.val (.ref d), .val (.int (0 : Int32)), .val (.int (3 : Int32)), .val (.int x), .val (.int (1 : Int32)), .val (.int (0 : Int32)), .val (.int (0 : Int32)), .val (.int (f 0))]) rfl kq') ?_
        show OwnGo _ _ _ _ (s₁.setTop (mkF m 42 #[.val (.ref d), .val (.int (0 : Int32)), .val (.int (3 : Int32)), .val (.int x), .val (.int (1 : Int32)), .val (.int (0 : Int32)), .val (.int (0 : Int32)), .val (.int (f 0))] []))
        refine OwnGo.fwd (fun tq' kq' => XS.goto X0.here hx rfl (pc0 := 42) (pc' := 63) rfl (hb hby d7_42) (by decide) (by decide) kq') ?_
        show OwnGo _ _ _ _ (s₁.setTop (mkF m 63 #[.val (.ref d), .val (.int (0 : Int32)), .val (.int (3 : Int32)), .val (.int x), .val (.int (1 : Int32)), .val (.int (0 : Int32)), .val (.int (0 : Int32)), .val (.int (f 0))] []))
        refine OwnGo.fwd (fun tq' kq' => XS.goto X0.here hx rfl (pc0 := 63) (pc' := 8) rfl (hb hby d7_63) (by decide) (by decide) kq') ?_
        show OwnGo _ _ _ _ (s₁.setTop (mkF m 8 #[.val (.ref d), .val (.int (0 : Int32)), .val (.int (3 : Int32)), .val (.int x), .val (.int (1 : Int32)), .val (.int (0 : Int32)), .val (.int (0 : Int32)), .val (.int (f 0))] []))
        refine OwnGo.fwd (fun tq' kq' => XS.iload X0.here hx rfl (hb hby d7_8) rfl kq') ?_
        show OwnGo _ _ _ _ (s₁.setTop (mkF m 10 #[.val (.ref d), .val (.int (0 : Int32)), .val (.int (3 : Int32)), .val (.int x), .val (.int (1 : Int32)), .val (.int (0 : Int32)), .val (.int (0 : Int32)), .val (.int (f 0))] [(.int (1 : Int32))]))
        refine OwnGo.fwd (fun tq' kq' => XS.iload X0.here hx rfl (hb hby d7_10) rfl kq') ?_
        show OwnGo _ _ _ _ (s₁.setTop (mkF m 12 #[.val (.ref d), .val (.int (0 : Int32)), .val (.int (3 : Int32)), .val (.int x), .val (.int (1 : Int32)), .val (.int (0 : Int32)), .val (.int (0 : Int32)), .val (.int (f 0))] [(.int (0 : Int32)), (.int (1 : Int32))]))
        have hc12_11 : (0 : Int) < (1 : Int) := by decide
        refine OwnGo.fwd (fun tq' kq' => XS.icmpYes X0.here hx rfl (pc0 := 12) (pc' := 66) rfl (hb hby d7_12) rfl (own_blt (by decide) (by decide) hc12_11).2.2.1 (by decide) (by decide) kq') ?_
        show OwnGo _ _ _ _ (s₁.setTop (mkF m 66 #[.val (.ref d), .val (.int (0 : Int32)), .val (.int (3 : Int32)), .val (.int x), .val (.int (1 : Int32)), .val (.int (0 : Int32)), .val (.int (0 : Int32)), .val (.int (f 0))] []))
        refine OwnGo.fwd (fun tq' kq' => XS.iload X0.here hx rfl (hb hby d7_66) rfl kq') ?_
        show OwnGo _ _ _ _ (s₁.setTop (mkF m 68 #[.val (.ref d), .val (.int (0 : Int32)), .val (.int (3 : Int32)), .val (.int x), .val (.int (1 : Int32)), .val (.int (0 : Int32)), .val (.int (0 : Int32)), .val (.int (f 0))] [(.int (1 : Int32))]))
        refine OwnGo.fwd (fun tq' kq' => XS.iconst X0.here hx rfl (hb hby d7_68) kq') ?_
        show OwnGo _ _ _ _ (s₁.setTop (mkF m 69 #[.val (.ref d), .val (.int (0 : Int32)), .val (.int (3 : Int32)), .val (.int x), .val (.int (1 : Int32)), .val (.int (0 : Int32)), .val (.int (0 : Int32)), .val (.int (f 0))] [(.int (1 : Int32)), (.int (1 : Int32))]))
        refine OwnGo.fwd (fun tq' kq' => XS.iadd X0.here hx rfl (hb hby d7_69) rfl kq') ?_
        show OwnGo _ _ _ _ (s₁.setTop (mkF m 70 #[.val (.ref d), .val (.int (0 : Int32)), .val (.int (3 : Int32)), .val (.int x), .val (.int (1 : Int32)), .val (.int (0 : Int32)), .val (.int (0 : Int32)), .val (.int (f 0))] [(.int (2 : Int32))]))
        refine OwnGo.fwd (fun tq' kq' => XS.ineg X0.here hx rfl (hb hby d7_70) rfl kq') ?_
        show OwnGo _ _ _ _ (s₁.setTop (mkF m 71 #[.val (.ref d), .val (.int (0 : Int32)), .val (.int (3 : Int32)), .val (.int x), .val (.int (1 : Int32)), .val (.int (0 : Int32)), .val (.int (0 : Int32)), .val (.int (f 0))] [(.int (-2 : Int32))]))
        exact own_retI X0 hlk hx Bd.returns (hb hby d7_71) (by decide) (by decide) e0 ⟨N, rfl, _, rfl, Or.inr ⟨by decide, fun i hi => by
            have : i = 0 ∨ i = 1 ∨ i = 2 := by omega
            rcases this with rfl | rfl | rfl <;> omega⟩⟩
      · refine OwnGo.fwd (fun tq' kq' => XS.icmpYes X0.here hx rfl (pc0 := 33) (pc' := 45) rfl (hb hby d7_33) rfl (own_bnlt rfl rfl hc33_10).2.1 (by decide) (by decide) kq') ?_
        show OwnGo _ _ _ _ (s₁.setTop (mkF m 45 #[.val (.ref d), .val (.int (0 : Int32)), .val (.int (3 : Int32)), .val (.int x), .val (.int (0 : Int32)), .val (.int (0 : Int32)), .val (.int (0 : Int32)), .val (.int (f 0))] []))
        refine OwnGo.fwd (fun tq' kq' => XS.iload X0.here hx rfl (hb hby d7_45) rfl kq') ?_
        show OwnGo _ _ _ _ (s₁.setTop (mkF m 47 #[.val (.ref d), .val (.int (0 : Int32)), .val (.int (3 : Int32)), .val (.int x), .val (.int (0 : Int32)), .val (.int (0 : Int32)), .val (.int (0 : Int32)), .val (.int (f 0))] [(.int (f 0))]))
        refine OwnGo.fwd (fun tq' kq' => XS.iloadN X0.here hx rfl (hb hby d7_47) rfl kq') ?_
        show OwnGo _ _ _ _ (s₁.setTop (mkF m 48 #[.val (.ref d), .val (.int (0 : Int32)), .val (.int (3 : Int32)), .val (.int x), .val (.int (0 : Int32)), .val (.int (0 : Int32)), .val (.int (0 : Int32)), .val (.int (f 0))] [(.int x), (.int (f 0))]))
        by_cases hc48_12 : x.toInt < (f 0).toInt
        · refine OwnGo.fwd (fun tq' kq' => XS.icmpNo X0.here hx rfl (hb hby d7_48) rfl (own_blt rfl rfl hc48_12).2.2.2 kq') ?_
          show OwnGo _ _ _ _ (s₁.setTop (mkF m 51 #[.val (.ref d), .val (.int (0 : Int32)), .val (.int (3 : Int32)), .val (.int x), .val (.int (0 : Int32)), .val (.int (0 : Int32)), .val (.int (0 : Int32)), .val (.int (f 0))] []))
          refine OwnGo.fwd (fun tq' kq' => XS.iload X0.here hx rfl (hb hby d7_51) rfl kq') ?_
          show OwnGo _ _ _ _ (s₁.setTop (mkF m 53 #[.val (.ref d), .val (.int (0 : Int32)), .val (.int (3 : Int32)), .val (.int x), .val (.int (0 : Int32)), .val (.int (0 : Int32)), .val (.int (0 : Int32)), .val (.int (f 0))] [(.int (0 : Int32))]))
          refine OwnGo.fwd (fun tq' kq' => XS.iconst X0.here hx rfl (hb hby d7_53) kq') ?_
          show OwnGo _ _ _ _ (s₁.setTop (mkF m 54 #[.val (.ref d), .val (.int (0 : Int32)), .val (.int (3 : Int32)), .val (.int x), .val (.int (0 : Int32)), .val (.int (0 : Int32)), .val (.int (0 : Int32)), .val (.int (f 0))] [(.int (1 : Int32)), (.int (0 : Int32))]))
          refine OwnGo.fwd (fun tq' kq' => XS.isub X0.here hx rfl (hb hby d7_54) rfl kq') ?_
          show OwnGo _ _ _ _ (s₁.setTop (mkF m 55 #[.val (.ref d), .val (.int (0 : Int32)), .val (.int (3 : Int32)), .val (.int x), .val (.int (0 : Int32)), .val (.int (0 : Int32)), .val (.int (0 : Int32)), .val (.int (f 0))] [(.int (-1 : Int32))]))
          refine OwnGo.fwd (fun tq' kq' => XS.istore X0.here hx rfl (hb hby d7_55) rfl (l' := #[.val (.ref d), .val (.int (0 : Int32)), .val (.int (3 : Int32)), .val (.int x), .val (.int (0 : Int32)), .val (.int (-1 : Int32)), .val (.int (0 : Int32)), .val (.int (f 0))]) rfl kq') ?_
          show OwnGo _ _ _ _ (s₁.setTop (mkF m 57 #[.val (.ref d), .val (.int (0 : Int32)), .val (.int (3 : Int32)), .val (.int x), .val (.int (0 : Int32)), .val (.int (-1 : Int32)), .val (.int (0 : Int32)), .val (.int (f 0))] []))
          refine OwnGo.fwd (fun tq' kq' => XS.goto X0.here hx rfl (pc0 := 57) (pc' := 63) rfl (hb hby d7_57) (by decide) (by decide) kq') ?_
          show OwnGo _ _ _ _ (s₁.setTop (mkF m 63 #[.val (.ref d), .val (.int (0 : Int32)), .val (.int (3 : Int32)), .val (.int x), .val (.int (0 : Int32)), .val (.int (-1 : Int32)), .val (.int (0 : Int32)), .val (.int (f 0))] []))
          refine OwnGo.fwd (fun tq' kq' => XS.goto X0.here hx rfl (pc0 := 63) (pc' := 8) rfl (hb hby d7_63) (by decide) (by decide) kq') ?_
          show OwnGo _ _ _ _ (s₁.setTop (mkF m 8 #[.val (.ref d), .val (.int (0 : Int32)), .val (.int (3 : Int32)), .val (.int x), .val (.int (0 : Int32)), .val (.int (-1 : Int32)), .val (.int (0 : Int32)), .val (.int (f 0))] []))
          refine OwnGo.fwd (fun tq' kq' => XS.iload X0.here hx rfl (hb hby d7_8) rfl kq') ?_
          show OwnGo _ _ _ _ (s₁.setTop (mkF m 10 #[.val (.ref d), .val (.int (0 : Int32)), .val (.int (3 : Int32)), .val (.int x), .val (.int (0 : Int32)), .val (.int (-1 : Int32)), .val (.int (0 : Int32)), .val (.int (f 0))] [(.int (0 : Int32))]))
          refine OwnGo.fwd (fun tq' kq' => XS.iload X0.here hx rfl (hb hby d7_10) rfl kq') ?_
          show OwnGo _ _ _ _ (s₁.setTop (mkF m 12 #[.val (.ref d), .val (.int (0 : Int32)), .val (.int (3 : Int32)), .val (.int x), .val (.int (0 : Int32)), .val (.int (-1 : Int32)), .val (.int (0 : Int32)), .val (.int (f 0))] [(.int (-1 : Int32)), (.int (0 : Int32))]))
          have hc12_13 : (-1 : Int) < (0 : Int) := by decide
          refine OwnGo.fwd (fun tq' kq' => XS.icmpYes X0.here hx rfl (pc0 := 12) (pc' := 66) rfl (hb hby d7_12) rfl (own_blt (by decide) (by decide) hc12_13).2.2.1 (by decide) (by decide) kq') ?_
          show OwnGo _ _ _ _ (s₁.setTop (mkF m 66 #[.val (.ref d), .val (.int (0 : Int32)), .val (.int (3 : Int32)), .val (.int x), .val (.int (0 : Int32)), .val (.int (-1 : Int32)), .val (.int (0 : Int32)), .val (.int (f 0))] []))
          refine OwnGo.fwd (fun tq' kq' => XS.iload X0.here hx rfl (hb hby d7_66) rfl kq') ?_
          show OwnGo _ _ _ _ (s₁.setTop (mkF m 68 #[.val (.ref d), .val (.int (0 : Int32)), .val (.int (3 : Int32)), .val (.int x), .val (.int (0 : Int32)), .val (.int (-1 : Int32)), .val (.int (0 : Int32)), .val (.int (f 0))] [(.int (0 : Int32))]))
          refine OwnGo.fwd (fun tq' kq' => XS.iconst X0.here hx rfl (hb hby d7_68) kq') ?_
          show OwnGo _ _ _ _ (s₁.setTop (mkF m 69 #[.val (.ref d), .val (.int (0 : Int32)), .val (.int (3 : Int32)), .val (.int x), .val (.int (0 : Int32)), .val (.int (-1 : Int32)), .val (.int (0 : Int32)), .val (.int (f 0))] [(.int (1 : Int32)), (.int (0 : Int32))]))
          refine OwnGo.fwd (fun tq' kq' => XS.iadd X0.here hx rfl (hb hby d7_69) rfl kq') ?_
          show OwnGo _ _ _ _ (s₁.setTop (mkF m 70 #[.val (.ref d), .val (.int (0 : Int32)), .val (.int (3 : Int32)), .val (.int x), .val (.int (0 : Int32)), .val (.int (-1 : Int32)), .val (.int (0 : Int32)), .val (.int (f 0))] [(.int (1 : Int32))]))
          refine OwnGo.fwd (fun tq' kq' => XS.ineg X0.here hx rfl (hb hby d7_70) rfl kq') ?_
          show OwnGo _ _ _ _ (s₁.setTop (mkF m 71 #[.val (.ref d), .val (.int (0 : Int32)), .val (.int (3 : Int32)), .val (.int x), .val (.int (0 : Int32)), .val (.int (-1 : Int32)), .val (.int (0 : Int32)), .val (.int (f 0))] [(.int (-1 : Int32))]))
          exact own_retI X0 hlk hx Bd.returns (hb hby d7_71) (by decide) (by decide) e0 ⟨N, rfl, _, rfl, Or.inr ⟨by decide, fun i hi => by
              have : i = 0 ∨ i = 1 ∨ i = 2 := by omega
              rcases this with rfl | rfl | rfl <;> omega⟩⟩
        · refine OwnGo.fwd (fun tq' kq' => XS.icmpYes X0.here hx rfl (pc0 := 48) (pc' := 60) rfl (hb hby d7_48) rfl (own_bnlt rfl rfl hc48_12).2.2.2 (by decide) (by decide) kq') ?_
          show OwnGo _ _ _ _ (s₁.setTop (mkF m 60 #[.val (.ref d), .val (.int (0 : Int32)), .val (.int (3 : Int32)), .val (.int x), .val (.int (0 : Int32)), .val (.int (0 : Int32)), .val (.int (0 : Int32)), .val (.int (f 0))] []))
          refine OwnGo.fwd (fun tq' kq' => XS.iload X0.here hx rfl (hb hby d7_60) rfl kq') ?_
          show OwnGo _ _ _ _ (s₁.setTop (mkF m 62 #[.val (.ref d), .val (.int (0 : Int32)), .val (.int (3 : Int32)), .val (.int x), .val (.int (0 : Int32)), .val (.int (0 : Int32)), .val (.int (0 : Int32)), .val (.int (f 0))] [(.int (0 : Int32))]))
          exact own_retI X0 hlk hx Bd.returns (hb hby d7_62) (by decide) (by decide) e0 ⟨N, rfl, _, rfl, Or.inl ⟨0, by decide, by decide, by omega⟩⟩
    · refine OwnGo.fwd (fun tq' kq' => XS.icmpYes X0.here hx rfl (pc0 := 48) (pc' := 60) rfl (hb hby d7_48) rfl (own_bnlt rfl rfl hc48_8).2.2.2 (by decide) (by decide) kq') ?_
      show OwnGo _ _ _ _ (s₁.setTop (mkF m 60 #[.val (.ref d), .val (.int (0 : Int32)), .val (.int (3 : Int32)), .val (.int x), .val (.int (0 : Int32)), .val (.int (2 : Int32)), .val (.int (1 : Int32)), .val (.int (f 1))] []))
      refine OwnGo.fwd (fun tq' kq' => XS.iload X0.here hx rfl (hb hby d7_60) rfl kq') ?_
      show OwnGo _ _ _ _ (s₁.setTop (mkF m 62 #[.val (.ref d), .val (.int (0 : Int32)), .val (.int (3 : Int32)), .val (.int x), .val (.int (0 : Int32)), .val (.int (2 : Int32)), .val (.int (1 : Int32)), .val (.int (f 1))] [(.int (1 : Int32))]))
      exact own_retI X0 hlk hx Bd.returns (hb hby d7_62) (by decide) (by decide) e0 ⟨N, rfl, _, rfl, Or.inl ⟨1, by decide, by decide, by omega⟩⟩
theorem ef_5n3 (m : MethodId) (x0 : Addr) (x1 : Int32) (x2 : Int32) (x3 : Int32) : entryFrame m #[(.ref x0), (.int x1), (.int x2), (.int x3)] 4 = mkF m 0 #[.val (.ref x0), .val (.int x1), .val (.int x2), .val (.int x3)] [] := by first | (simp [entryFrame, mkF, argsToLocals, Value.category, maxLocals]; done) | rfl
def Q5n3 (Z : State) (d : Addr) (cp : Nat) (f : Nat → Int32) (x : Int32) (h0 : Heap) (n0 : Nat) (v : Option Value) (h : Heap) (L : List Loc) : Prop := Fr n0 L ∧ h = h0 ∧ ∃ z, v = some (.int z) ∧ own_bs 3 f x z
set_option maxRecDepth 65536 in
set_option maxHeartbeats 40000000 in
theorem rm5n3 (l : Launch) (Z : State) (a0 : Array Value) (hw : ∀ d ∈ tables_1, d.before a0 Z = true) (ws : List Jvm.Cond) (d : Addr) (cp : Nat) (f : Nat → Int32) (x : Int32) (h0 : Heap) (n0 : Nat) (Z0 : n0 ≤ h0.size) (V_d : OwnIA Z h0 d cp f) (hn : 3 ≤ cp) (hs0 : (f 0).toInt < (f 1).toInt) (hs1 : (f 1).toInt < (f 2).toInt) :
    MetFree l (⟨"java/util/Arrays", "binarySearch", "([IIII)I"⟩ : MethodName) (head1 (Jvm.Cond.code (⟨"java/util/Arrays", "binarySearch", "([IIII)I"⟩ : MethodName) jdk_65_method_58_code 4 (some .int) :: ws) ({ frames := 1, cells := 0, slots := 0, locals := 20 } : Room)) (fun arr' U => arr' = #[(.ref d), (.int (0 : Int32)), (.int (3 : Int32)), (.int x)] ∧ Z.Warmed39 U.vm ∧ U.heap = h0) (fun _ _ _ _ _ => True) (fun _ U o U' => ∃ v L, o = .returned v ∧ (Q5n3 Z d cp f x h0 n0) v U'.heap L ∧ FrameEnd U o U' L ({ frames := 1, cells := 0, slots := 0, locals := 20 } : Room).cells ({ frames := 1, cells := 0, slots := 0, locals := 20 } : Room).slots) := by
  refine MetFree.of_bodySF pn_5 hisR ?_
  intro p e s m args below meth c s₁ Bd hml0 hP hK
  obtain ⟨rfl, hZ, hh⟩ := hP
  have hx := Bd.exec
  have hby := Bd.bytes
  have hlk : meth.locks = false := BodyLoose.notSynchronized Bd
  have hml : c.maxLocals = 4 := hml0
  have hown : s.vm.findClass "java/util/Arrays" = some m.cls := findClass_of_methodNamed Bd.named
  have hnm := (name_of_methodNamed Bd.named Bd.method).1
  have X0 : Stand p l e ({ frames := 1, cells := 0, slots := 0, locals := 20 } : Room) s m #[(.ref d), (.int (0 : Int32)), (.int (3 : Int32)), (.int x)] below meth c s₁ [] 0 0 := Stand.of_body Bd
  have e0 : s₁.heap = h0 := by rw [← hh, Bd.state]; rfl
  have N := Fr.nil n0
  have Zs := Z0
  change OwnGo p.tables e below (OwnEnd s (Q5n3 Z d cp f x h0 n0) ({ frames := 1, cells := 0, slots := 0, locals := 20 } : Room).cells ({ frames := 1, cells := 0, slots := 0, locals := 20 } : Room).slots) _
  refine OwnGo.fwd (fun tq' kq' => castTop (ef_5n3 m d (0 : Int32) (3 : Int32) x) kq') ?_
  show OwnGo _ _ _ _ (s₁.setTop (mkF m 0 #[.val (.ref d), .val (.int (0 : Int32)), .val (.int (3 : Int32)), .val (.int x)] []))
  have hcp : (Int32.ofNat cp).toInt = (cp : Int) := own_ofNat (by obtain ⟨_, _, _, r, _⟩ := V_d; exact r)
  refine OwnGo.fwd (fun tq' kq' => XS.aloadN X0.here hx rfl (hb hby d5_0) rfl rfl kq') ?_
  show OwnGo _ _ _ _ (s₁.setTop (mkF m 1 #[.val (.ref d), .val (.int (0 : Int32)), .val (.int (3 : Int32)), .val (.int x)] [(.ref d)]))
  refine OwnGo.fwd (fun tq' kq' => own_len X0 hx hZ e0 V_d (g := (mkF m 1 #[.val (.ref d), .val (.int (0 : Int32)), .val (.int (3 : Int32)), .val (.int x)] [(.ref d)])) rfl rfl (hb hby d5_1) tq' kq') ?_
  show OwnGo _ _ _ _ (s₁.setTop (mkF m 2 #[.val (.ref d), .val (.int (0 : Int32)), .val (.int (3 : Int32)), .val (.int x)] [(.int (Int32.ofNat cp))]))
  refine OwnGo.fwd (fun tq' kq' => XS.iloadN X0.here hx rfl (hb hby d5_2) rfl kq') ?_
  show OwnGo _ _ _ _ (s₁.setTop (mkF m 3 #[.val (.ref d), .val (.int (0 : Int32)), .val (.int (3 : Int32)), .val (.int x)] [(.int (0 : Int32)), (.int (Int32.ofNat cp))]))
  refine OwnGo.fwd (fun tq' kq' => XS.iloadN X0.here hx rfl (hb hby d5_3) rfl kq') ?_
  show OwnGo _ _ _ _ (s₁.setTop (mkF m 4 #[.val (.ref d), .val (.int (0 : Int32)), .val (.int (3 : Int32)), .val (.int x)] [(.int (3 : Int32)), (.int (0 : Int32)), (.int (Int32.ofNat cp))]))
  obtain ⟨_, _, ⟨T1, L1, k1, n1⟩, -, X1, ⟨Lc1, hQ1, l1, y1, z1⟩, st1⟩ := Jvm.LawKit.callS X0 hx (y := (⟨"java/util/Arrays", "rangeCheck", "(III)V"⟩ : MethodName)) hown (mvT hZ (hw _ (List.mem_of_getElem? (i := 30) rfl))) (mvT hZ (hw _ (List.mem_of_getElem? (i := 31) rfl))) (mvT hZ (hw _ (List.mem_of_getElem? (i := 28) rfl))) (mvT hZ (hw _ (List.mem_of_getElem? (i := 32) rfl))) (by decide) (backOf (W := 0) (rm6n3 l Z a0 hw [] cp h0 n0 Zs hcp hn) hZ (hw _ (List.mem_of_getElem? (i := 32) rfl)) (hw _ (List.mem_of_getElem? (i := 28) rfl)) (by decide) (by decide)) (g := (mkF m 4 #[.val (.ref d), .val (.int (0 : Int32)), .val (.int (3 : Int32)), .val (.int x)] [(.int (3 : Int32)), (.int (0 : Int32)), (.int (Int32.ofNat cp))])) rfl (by rw [hml]; rfl) (argsL := [(.int (Int32.ofNat cp)), (.int (0 : Int32)), (.int (3 : Int32))]) (rest := []) (lenOf pd_5 rfl) rfl (by show 2 * 0 + _ ≤ _; exact Nat.le_of_eq rfl) (hb hby d5_4) (fun _ _ => ⟨rfl, e0, (by decide : 0 + 0 ≤ _), (by decide : 0 + 0 ≤ _)⟩)
  dsimp only [Pt.U, Pt.locs, Pt.cells, Pt.slots] at X1 l1 y1 z1 st1 hQ1
  subst l1 y1 z1
  obtain ⟨rfl, N1q, e1⟩ := hQ1
  have N := Fr.app N N1q
  refine OwnGo.fwd st1 ?_
  show OwnGo _ _ _ _ (T1.setTop (mkF m 7 #[.val (.ref d), .val (.int (0 : Int32)), .val (.int (3 : Int32)), .val (.int x)] []))
  refine OwnGo.fwd (fun tq' kq' => XS.aloadN X1.here hx rfl (hb hby d5_7) rfl rfl kq') ?_
  show OwnGo _ _ _ _ (T1.setTop (mkF m 8 #[.val (.ref d), .val (.int (0 : Int32)), .val (.int (3 : Int32)), .val (.int x)] [(.ref d)]))
  refine OwnGo.fwd (fun tq' kq' => XS.iloadN X1.here hx rfl (hb hby d5_8) rfl kq') ?_
  show OwnGo _ _ _ _ (T1.setTop (mkF m 9 #[.val (.ref d), .val (.int (0 : Int32)), .val (.int (3 : Int32)), .val (.int x)] [(.int (0 : Int32)), (.ref d)]))
  refine OwnGo.fwd (fun tq' kq' => XS.iloadN X1.here hx rfl (hb hby d5_9) rfl kq') ?_
  show OwnGo _ _ _ _ (T1.setTop (mkF m 10 #[.val (.ref d), .val (.int (0 : Int32)), .val (.int (3 : Int32)), .val (.int x)] [(.int (3 : Int32)), (.int (0 : Int32)), (.ref d)]))
  refine OwnGo.fwd (fun tq' kq' => XS.iloadN X1.here hx rfl (hb hby d5_10) rfl kq') ?_
  show OwnGo _ _ _ _ (T1.setTop (mkF m 11 #[.val (.ref d), .val (.int (0 : Int32)), .val (.int (3 : Int32)), .val (.int x)] [(.int x), (.int (3 : Int32)), (.int (0 : Int32)), (.ref d)]))
  obtain ⟨_, _, ⟨T2, L2, k2, n2⟩, -, X2, ⟨Lc2, hQ2, l2, y2, z2⟩, st2⟩ := Jvm.LawKit.callS X1 hx (y := (⟨"java/util/Arrays", "binarySearch0", "([IIII)I"⟩ : MethodName)) hown (mvT hZ (hw _ (List.mem_of_getElem? (i := 33) rfl))) (mvT hZ (hw _ (List.mem_of_getElem? (i := 34) rfl))) (mvT hZ (hw _ (List.mem_of_getElem? (i := 28) rfl))) (mvT hZ (hw _ (List.mem_of_getElem? (i := 35) rfl))) (by decide) (backOf (W := 0) (rm7n3 l Z a0 hw [] d cp f x h0 n0 Zs V_d hn hs0 hs1) hZ (hw _ (List.mem_of_getElem? (i := 35) rfl)) (hw _ (List.mem_of_getElem? (i := 28) rfl)) (by decide) (by decide)) (g := (mkF m 11 #[.val (.ref d), .val (.int (0 : Int32)), .val (.int (3 : Int32)), .val (.int x)] [(.int x), (.int (3 : Int32)), (.int (0 : Int32)), (.ref d)])) rfl (by rw [hml]; rfl) (argsL := [(.ref d), (.int (0 : Int32)), (.int (3 : Int32)), (.int x)]) (rest := []) (lenOf pd_4 rfl) rfl (by show 2 * 0 + _ ≤ _; exact Nat.le_of_eq rfl) (hb hby d5_11) (fun _ _ => ⟨rfl, e1, (by decide : 0 + 0 ≤ _), (by decide : 0 + 0 ≤ _)⟩)
  dsimp only [Pt.U, Pt.locs, Pt.cells, Pt.slots] at X2 l2 y2 z2 st2 hQ2
  subst l2 y2 z2
  obtain ⟨N2q, e2, z2, rfl, hb2⟩ := hQ2
  have N := Fr.app N N2q
  refine OwnGo.fwd st2 ?_
  show OwnGo _ _ _ _ (T2.setTop (mkF m 14 #[.val (.ref d), .val (.int (0 : Int32)), .val (.int (3 : Int32)), .val (.int x)] [(.int z2)]))
  exact own_retI X2 hlk hx Bd.returns (hb hby d5_14) (by decide) (by decide) e2 ⟨N, rfl, _, rfl, hb2⟩
theorem ef_4n3 (m : MethodId) (x0 : Addr) (x1 : Int32) : entryFrame m #[(.ref x0), (.int x1)] 3 = mkF m 0 #[.val (.ref x0), .val (.int x1), .unset] [] := by first | (simp [entryFrame, mkF, argsToLocals, Value.category, maxLocals]; done) | rfl
def Q4n3 (Z : State) (a : Addr) (da : Addr) (fa : Addr) (t : Int64) (cp : Nat) (f : Nat → Int32) (g : Nat → Int32) (x : Int32) (h0 : Heap) (n0 : Nat) (v : Option Value) (h : Heap) (L : List Loc) : Prop := Fr n0 L ∧ h = h0 ∧ ∃ r, v = some (.int r) ∧ own_fi 3 f g x r
set_option maxRecDepth 65536 in
set_option maxHeartbeats 40000000 in
theorem rm4n3 (l : Launch) (Z : State) (a0 : Array Value) (hw : ∀ d ∈ tables_1, d.before a0 Z = true) (ws : List Jvm.Cond) (a : Addr) (da : Addr) (fa : Addr) (t : Int64) (cp : Nat) (f : Nat → Int32) (g : Nat → Int32) (x : Int32) (h0 : Heap) (n0 : Nat) (Z0 : n0 ≤ h0.size) (HA : own_P Z h0 n0 a da fa 3 t cp f g) (hn : 3 ≤ cp) (hs0 : (f 0).toInt < (f 1).toInt) (hs1 : (f 1).toInt < (f 2).toInt) :
    MetFree l (⟨"com/example/inverse_frequency/inversefrequency/Postings", "frequencyIn", "(I)I"⟩ : MethodName) (head1 (Jvm.Cond.code (⟨"com/example/inverse_frequency/inversefrequency/Postings", "frequencyIn", "(I)I"⟩ : MethodName) prog_33_method_8_code 3 (some .int) :: ws) ({ frames := 2, cells := 0, slots := 0, locals := 40 } : Room)) (fun arr' U => arr' = #[(.ref a), (.int x)] ∧ Z.Warmed39 U.vm ∧ U.heap = h0) (fun _ _ _ _ _ => True) (fun _ U o U' => ∃ v L, o = .returned v ∧ (Q4n3 Z a da fa t cp f g x h0 n0) v U'.heap L ∧ FrameEnd U o U' L ({ frames := 2, cells := 0, slots := 0, locals := 40 } : Room).cells ({ frames := 2, cells := 0, slots := 0, locals := 40 } : Room).slots) := by
  refine MetFree.of_bodySF pn_4 hisR ?_
  intro p e s m args below meth c s₁ Bd hml0 hP hK
  obtain ⟨rfl, hZ, hh⟩ := hP
  have hx := Bd.exec
  have hby := Bd.bytes
  have hlk : meth.locks = false := BodyLoose.notSynchronized Bd
  have hml : c.maxLocals = 3 := hml0
  have hown : s.vm.findClass "com/example/inverse_frequency/inversefrequency/Postings" = some m.cls := findClass_of_methodNamed Bd.named
  have hnm := (name_of_methodNamed Bd.named Bd.method).1
  have X0 : Stand p l e ({ frames := 2, cells := 0, slots := 0, locals := 40 } : Room) s m #[(.ref a), (.int x)] below meth c s₁ [] 0 0 := Stand.of_body Bd
  have e0 : s₁.heap = h0 := by rw [← hh, Bd.state]; rfl
  have N := Fr.nil n0
  have Zs := Z0
  change OwnGo p.tables e below (OwnEnd s (Q4n3 Z a da fa t cp f g x h0 n0) ({ frames := 2, cells := 0, slots := 0, locals := 40 } : Room).cells ({ frames := 2, cells := 0, slots := 0, locals := 40 } : Room).slots) _
  refine OwnGo.fwd (fun tq' kq' => castTop (ef_4n3 m a x) kq') ?_
  show OwnGo _ _ _ _ (s₁.setTop (mkF m 0 #[.val (.ref a), .val (.int x), .unset] []))
  obtain ⟨E_a, F_documents_a, F_frequencies_a, F_size_a, F_totalFrequency_a, V_da, V_fa, ne_a_da, ne_a_fa, ne_da_fa, g_a, g_da, g_fa⟩ := HA
  refine OwnGo.fwd (fun tq' kq' => XS.aloadN X0.here hx rfl (hb hby d4_0) rfl rfl kq') ?_
  show OwnGo _ _ _ _ (s₁.setTop (mkF m 1 #[.val (.ref a), .val (.int x), .unset] [(.ref a)]))
  obtain ⟨T1, X1, e1, st1⟩ := getF X0 hx hZ hown (host := "") (Or.inl (hw _ (List.mem_of_getElem? (i := 15) rfl))) Via.refl e0 F_documents_a (g := (mkF m 1 #[.val (.ref a), .val (.int x), .unset] [(.ref a)])) rfl rfl (hb hby d4_1)
  refine OwnGo.fwd st1 ?_
  show OwnGo _ _ _ _ (T1.setTop (mkF m 4 #[.val (.ref a), .val (.int x), .unset] [(.ref da)]))
  refine OwnGo.fwd (fun tq' kq' => XS.iconst X1.here hx rfl (hb hby d4_4) kq') ?_
  show OwnGo _ _ _ _ (T1.setTop (mkF m 5 #[.val (.ref a), .val (.int x), .unset] [(.int (0 : Int32)), (.ref da)]))
  refine OwnGo.fwd (fun tq' kq' => XS.aloadN X1.here hx rfl (hb hby d4_5) rfl rfl kq') ?_
  show OwnGo _ _ _ _ (T1.setTop (mkF m 6 #[.val (.ref a), .val (.int x), .unset] [(.ref a), (.int (0 : Int32)), (.ref da)]))
  obtain ⟨T2, X2, e2, st2⟩ := getF X1 hx hZ hown (host := "") (Or.inl (hw _ (List.mem_of_getElem? (i := 24) rfl))) Via.refl e1 F_size_a (g := (mkF m 6 #[.val (.ref a), .val (.int x), .unset] [(.ref a), (.int (0 : Int32)), (.ref da)])) rfl rfl (hb hby d4_6)
  refine OwnGo.fwd st2 ?_
  show OwnGo _ _ _ _ (T2.setTop (mkF m 9 #[.val (.ref a), .val (.int x), .unset] [(.int (Int32.ofNat 3)), (.int (0 : Int32)), (.ref da)]))
  refine OwnGo.fwd (fun tq' kq' => XS.iloadN X2.here hx rfl (hb hby d4_9) rfl kq') ?_
  show OwnGo _ _ _ _ (T2.setTop (mkF m 10 #[.val (.ref a), .val (.int x), .unset] [(.int x), (.int (Int32.ofNat 3)), (.int (0 : Int32)), (.ref da)]))
  obtain ⟨_, _, ⟨T3, L3, k3, n3⟩, -, X3, ⟨Lc3, hQ3, l3, y3, z3⟩, st3⟩ := Jvm.LawKit.callS X2 hx (y := (⟨"java/util/Arrays", "binarySearch", "([IIII)I"⟩ : MethodName)) hown (mvT hZ (hw _ (List.mem_of_getElem? (i := 26) rfl))) (mvT hZ (hw _ (List.mem_of_getElem? (i := 27) rfl))) (mvT hZ (hw _ (List.mem_of_getElem? (i := 28) rfl))) (mvT hZ (hw _ (List.mem_of_getElem? (i := 29) rfl))) (by decide) (backOf (W := 0) (rm5n3 l Z a0 hw [] da cp f x h0 n0 Zs V_da hn hs0 hs1) hZ (hw _ (List.mem_of_getElem? (i := 29) rfl)) (hw _ (List.mem_of_getElem? (i := 28) rfl)) (by decide) (by decide)) (g := (mkF m 10 #[.val (.ref a), .val (.int x), .unset] [(.int x), (.int (Int32.ofNat 3)), (.int (0 : Int32)), (.ref da)])) rfl (by rw [hml]; rfl) (argsL := [(.ref da), (.int (0 : Int32)), (.int (Int32.ofNat 3)), (.int x)]) (rest := []) (lenOf pd_4 rfl) rfl (by show 2 * 0 + _ ≤ _; exact Nat.le_of_eq rfl) (hb hby d4_10) (fun _ _ => ⟨rfl, e2, (by decide : 0 + 0 ≤ _), (by decide : 0 + 0 ≤ _)⟩)
  dsimp only [Pt.U, Pt.locs, Pt.cells, Pt.slots] at X3 l3 y3 z3 st3 hQ3
  subst l3 y3 z3
  obtain ⟨N3q, e3, z3, rfl, hb3⟩ := hQ3
  have N := Fr.app N N3q
  refine OwnGo.fwd st3 ?_
  show OwnGo _ _ _ _ (T3.setTop (mkF m 13 #[.val (.ref a), .val (.int x), .unset] [(.int z3)]))
  refine OwnGo.fwd (fun tq' kq' => XS.istoreN X3.here hx rfl (hb hby d4_13) rfl (l' := #[.val (.ref a), .val (.int x), .val (.int z3)]) rfl kq') ?_
  show OwnGo _ _ _ _ (T3.setTop (mkF m 14 #[.val (.ref a), .val (.int x), .val (.int z3)] []))
  refine OwnGo.fwd (fun tq' kq' => XS.iloadN X3.here hx rfl (hb hby d4_14) rfl kq') ?_
  show OwnGo _ _ _ _ (T3.setTop (mkF m 15 #[.val (.ref a), .val (.int x), .val (.int z3)] [(.int z3)]))
  by_cases hc15_4 : z3.toInt < 0
  · refine OwnGo.fwd (fun tq' kq' => XS.ifNo X3.here hx rfl (hb hby d4_15) rfl ((if0 _ _).trans (own_blt rfl (by decide) hc15_4).2.1) kq') ?_
    show OwnGo _ _ _ _ (T3.setTop (mkF m 18 #[.val (.ref a), .val (.int x), .val (.int z3)] []))
    refine OwnGo.fwd (fun tq' kq' => XS.iconst X3.here hx rfl (hb hby d4_18) kq') ?_
    show OwnGo _ _ _ _ (T3.setTop (mkF m 19 #[.val (.ref a), .val (.int x), .val (.int z3)] [(.int (0 : Int32))]))
    refine OwnGo.fwd (fun tq' kq' => XS.goto X3.here hx rfl (pc0 := 19) (pc' := 28) rfl (hb hby d4_19) (by decide) (by decide) kq') ?_
    show OwnGo _ _ _ _ (T3.setTop (mkF m 28 #[.val (.ref a), .val (.int x), .val (.int z3)] [(.int (0 : Int32))]))
    exact own_retI X3 hlk hx Bd.returns (hb hby d4_28) (by decide) (by decide) e3 ⟨N, rfl, _, rfl, Or.inr ⟨(hb3.resolve_left (fun ⟨i, hi, hz, _⟩ => by omega)).2, rfl⟩⟩
  · refine OwnGo.fwd (fun tq' kq' => XS.ifYes X3.here hx rfl (pc0 := 15) (pc' := 22) rfl (hb hby d4_15) rfl ((if0 _ _).trans (own_bnlt rfl (by decide) hc15_4).2.1) (by decide) (by decide) kq') ?_
    show OwnGo _ _ _ _ (T3.setTop (mkF m 22 #[.val (.ref a), .val (.int x), .val (.int z3)] []))
    obtain ⟨i, hi, hz, hfi⟩ := hb3.resolve_right (fun q => hc15_4 q.1)
    refine OwnGo.fwd (fun tq' kq' => XS.aloadN X3.here hx rfl (hb hby d4_22) rfl rfl kq') ?_
    show OwnGo _ _ _ _ (T3.setTop (mkF m 23 #[.val (.ref a), .val (.int x), .val (.int z3)] [(.ref a)]))
    obtain ⟨T5, X5, e5, st5⟩ := getF X3 hx hZ hown (host := "") (Or.inl (hw _ (List.mem_of_getElem? (i := 17) rfl))) Via.refl e3 F_frequencies_a (g := (mkF m 23 #[.val (.ref a), .val (.int x), .val (.int z3)] [(.ref a)])) rfl rfl (hb hby d4_23)
    refine OwnGo.fwd st5 ?_
    show OwnGo _ _ _ _ (T5.setTop (mkF m 26 #[.val (.ref a), .val (.int x), .val (.int z3)] [(.ref fa)]))
    refine OwnGo.fwd (fun tq' kq' => XS.iloadN X5.here hx rfl (hb hby d4_26) rfl kq') ?_
    show OwnGo _ _ _ _ (T5.setTop (mkF m 27 #[.val (.ref a), .val (.int x), .val (.int z3)] [(.int z3), (.ref fa)]))
    refine OwnGo.fwd (fun tq' kq' => own_iaload X5 hx hZ e5 V_fa (i := i) hz (by omega) (g := (mkF m 27 #[.val (.ref a), .val (.int x), .val (.int z3)] [(.int z3), (.ref fa)])) rfl rfl (hb hby d4_27) tq' kq') ?_
    show OwnGo _ _ _ _ (T5.setTop (mkF m 28 #[.val (.ref a), .val (.int x), .val (.int z3)] [(.int (g i))]))
    exact own_retI X5 hlk hx Bd.returns (hb hby d4_28) (by decide) (by decide) e5 ⟨N, rfl, _, rfl, Or.inl ⟨i, hi, hfi, rfl⟩⟩
theorem pn_0 : plainFor (⟨"com/example/inverse_frequency/inversefrequency/PostingsFrequencyInPinLaw", "law", "(IIIIII)Z"⟩ : MethodName) = true := plainFor_of_name (by first | (simp [plainName, overriddenIn]; done) | decide +kernel)
theorem ef_0 (m : MethodId) (x0 : Int32) (x1 : Int32) (x2 : Int32) (x3 : Int32) (x4 : Int32) (x5 : Int32) : entryFrame m #[(.int x0), (.int x1), (.int x2), (.int x3), (.int x4), (.int x5)] maxLocals = mkF m 0 #[.val (.int x0), .val (.int x1), .val (.int x2), .val (.int x3), .val (.int x4), .val (.int x5), .unset, .unset, .unset, .unset, .unset, .unset, .unset, .unset, .unset, .unset] [] := by first | (simp [entryFrame, mkF, argsToLocals, Value.category, maxLocals]; done) | rfl
def Q0 (Z : State) (p0 : Int32) (p1 : Int32) (p2 : Int32) (p3 : Int32) (p4 : Int32) (p5 : Int32) (h0 : Heap) (n0 : Nat) (v : Option Value) (h : Heap) (L : List Loc) : Prop := v = some (.int 1) ∧ Fr n0 L
set_option maxRecDepth 65536 in
set_option maxHeartbeats 40000000 in
theorem rm0 (l : Launch) (Z : State) (a0 : Array Value) (hw : ∀ d ∈ tables_1, d.before a0 Z = true) (ws : List Jvm.Cond) (p0 : Int32) (p1 : Int32) (p2 : Int32) (p3 : Int32) (p4 : Int32) (p5 : Int32) (h0 : Heap) (n0 : Nat) (Z0 : n0 ≤ h0.size) :
    MetFree l x (head1 (Jvm.Cond.code x code maxLocals ret :: ws) room_1) (fun arr' U => arr' = #[(.int p0), (.int p1), (.int p2), (.int p3), (.int p4), (.int p5)] ∧ Z.Warmed39 U.vm ∧ U.heap = h0) (fun _ _ _ _ _ => True) (fun _ U o U' => ∃ v L, o = .returned v ∧ (Q0 Z p0 p1 p2 p3 p4 p5 h0 n0) v U'.heap L ∧ FrameEnd U o U' L room_1.cells room_1.slots) := by
  refine MetFree.of_bodySF pn_0 hisR ?_
  intro p e s m args below meth c s₁ Bd hml0 hP hK
  obtain ⟨rfl, hZ, hh⟩ := hP
  have hx := Bd.exec
  have hby := Bd.bytes
  have hlk : meth.locks = false := BodyLoose.notSynchronized Bd
  have hml : c.maxLocals = 16 := hml0
  have hown : s.vm.findClass "com/example/inverse_frequency/inversefrequency/PostingsFrequencyInPinLaw" = some m.cls := findClass_of_methodNamed Bd.named
  have hnm := (name_of_methodNamed Bd.named Bd.method).1
  have X0 : Stand p l e room_1 s m #[(.int p0), (.int p1), (.int p2), (.int p3), (.int p4), (.int p5)] below meth c s₁ [] 0 0 := Stand.of_body Bd
  have e0 : s₁.heap = h0 := by rw [← hh, Bd.state]; rfl
  have N := Fr.nil n0
  have Zs := Z0
  change OwnGo p.tables e below (OwnEnd s (Q0 Z p0 p1 p2 p3 p4 p5 h0 n0) room_1.cells room_1.slots) _
  refine OwnGo.fwd (fun tq' kq' => castTop (ef_0 m p0 p1 p2 p3 p4 p5) kq') ?_
  show OwnGo _ _ _ _ (s₁.setTop (mkF m 0 #[.val (.int p0), .val (.int p1), .val (.int p2), .val (.int p3), .val (.int p4), .val (.int p5), .unset, .unset, .unset, .unset, .unset, .unset, .unset, .unset, .unset, .unset] []))
  refine OwnGo.fwd (fun tq' kq' => XS.iloadN X0.here hx rfl (hb hby at_0) rfl kq') ?_
  show OwnGo _ _ _ _ (s₁.setTop (mkF m 1 #[.val (.int p0), .val (.int p1), .val (.int p2), .val (.int p3), .val (.int p4), .val (.int p5), .unset, .unset, .unset, .unset, .unset, .unset, .unset, .unset, .unset, .unset] [(.int p0)]))
  refine OwnGo.fwd (fun tq' kq' => XS.iconst X0.here hx rfl (hb hby at_1) kq') ?_
  show OwnGo _ _ _ _ (s₁.setTop (mkF m 2 #[.val (.int p0), .val (.int p1), .val (.int p2), .val (.int p3), .val (.int p4), .val (.int p5), .unset, .unset, .unset, .unset, .unset, .unset, .unset, .unset, .unset, .unset] [(.int (2 : Int32)), (.int p0)]))
  refine OwnGo.fwd (fun tq' kq' => XS.iushr X0.here hx rfl (hb hby at_2) rfl kq') ?_
  show OwnGo _ _ _ _ (s₁.setTop (mkF m 3 #[.val (.int p0), .val (.int p1), .val (.int p2), .val (.int p3), .val (.int p4), .val (.int p5), .unset, .unset, .unset, .unset, .unset, .unset, .unset, .unset, .unset, .unset] [(.int ((p0.toUInt32 >>> ((2 : Int32) &&& 31).toUInt32).toInt32))]))
  refine OwnGo.fwd (fun tq' kq' => XS.iconst X0.here hx rfl (hb hby at_3) kq') ?_
  show OwnGo _ _ _ _ (s₁.setTop (mkF m 4 #[.val (.int p0), .val (.int p1), .val (.int p2), .val (.int p3), .val (.int p4), .val (.int p5), .unset, .unset, .unset, .unset, .unset, .unset, .unset, .unset, .unset, .unset] [(.int (3 : Int32)), (.int ((p0.toUInt32 >>> ((2 : Int32) &&& 31).toUInt32).toInt32))]))
  refine OwnGo.fwd (fun tq' kq' => XS.iand X0.here hx rfl (hb hby at_4) rfl kq') ?_
  show OwnGo _ _ _ _ (s₁.setTop (mkF m 5 #[.val (.int p0), .val (.int p1), .val (.int p2), .val (.int p3), .val (.int p4), .val (.int p5), .unset, .unset, .unset, .unset, .unset, .unset, .unset, .unset, .unset, .unset] [(.int (((p0.toUInt32 >>> ((2 : Int32) &&& 31).toUInt32).toInt32) &&& (3 : Int32)))]))
  obtain ⟨nn, hv_nn⟩ : ∃ q : Int32, q = (((p0.toUInt32 >>> ((2 : Int32) &&& 31).toUInt32).toInt32) &&& (3 : Int32)) := ⟨_, rfl⟩
  rw [← hv_nn]
  show OwnGo _ _ _ _ (s₁.setTop (mkF m 5 #[.val (.int p0), .val (.int p1), .val (.int p2), .val (.int p3), .val (.int p4), .val (.int p5), .unset, .unset, .unset, .unset, .unset, .unset, .unset, .unset, .unset, .unset] [(.int nn)]))
  have hnn := own_0123 ((p0.toUInt32 >>> ((2 : Int32) &&& 31).toUInt32).toInt32)
  rw [← hv_nn] at hnn
  refine OwnGo.fwd (fun tq' kq' => XS.istore X0.here hx rfl (hb hby at_5) rfl (l' := #[.val (.int p0), .val (.int p1), .val (.int p2), .val (.int p3), .val (.int p4), .val (.int p5), .val (.int nn), .unset, .unset, .unset, .unset, .unset, .unset, .unset, .unset, .unset]) rfl kq') ?_
  show OwnGo _ _ _ _ (s₁.setTop (mkF m 7 #[.val (.int p0), .val (.int p1), .val (.int p2), .val (.int p3), .val (.int p4), .val (.int p5), .val (.int nn), .unset, .unset, .unset, .unset, .unset, .unset, .unset, .unset, .unset] []))
  refine OwnGo.fwd (fun tq' kq' => XS.iloadN X0.here hx rfl (hb hby at_7) rfl kq') ?_
  show OwnGo _ _ _ _ (s₁.setTop (mkF m 8 #[.val (.int p0), .val (.int p1), .val (.int p2), .val (.int p3), .val (.int p4), .val (.int p5), .val (.int nn), .unset, .unset, .unset, .unset, .unset, .unset, .unset, .unset, .unset] [(.int p0)]))
  refine OwnGo.fwd (fun tq' kq' => XS.iconst X0.here hx rfl (hb hby at_8) kq') ?_
  show OwnGo _ _ _ _ (s₁.setTop (mkF m 9 #[.val (.int p0), .val (.int p1), .val (.int p2), .val (.int p3), .val (.int p4), .val (.int p5), .val (.int nn), .unset, .unset, .unset, .unset, .unset, .unset, .unset, .unset, .unset] [(.int (4 : Int32)), (.int p0)]))
  refine OwnGo.fwd (fun tq' kq' => XS.iushr X0.here hx rfl (hb hby at_9) rfl kq') ?_
  show OwnGo _ _ _ _ (s₁.setTop (mkF m 10 #[.val (.int p0), .val (.int p1), .val (.int p2), .val (.int p3), .val (.int p4), .val (.int p5), .val (.int nn), .unset, .unset, .unset, .unset, .unset, .unset, .unset, .unset, .unset] [(.int ((p0.toUInt32 >>> ((4 : Int32) &&& 31).toUInt32).toInt32))]))
  refine OwnGo.fwd (fun tq' kq' => XS.bipush X0.here hx rfl (hb hby at_10) kq') ?_
  show OwnGo _ _ _ _ (s₁.setTop (mkF m 12 #[.val (.int p0), .val (.int p1), .val (.int p2), .val (.int p3), .val (.int p4), .val (.int p5), .val (.int nn), .unset, .unset, .unset, .unset, .unset, .unset, .unset, .unset, .unset] [(.int (7 : Int32)), (.int ((p0.toUInt32 >>> ((4 : Int32) &&& 31).toUInt32).toInt32))]))
  refine OwnGo.fwd (fun tq' kq' => XS.iand X0.here hx rfl (hb hby at_12) rfl kq') ?_
  show OwnGo _ _ _ _ (s₁.setTop (mkF m 13 #[.val (.int p0), .val (.int p1), .val (.int p2), .val (.int p3), .val (.int p4), .val (.int p5), .val (.int nn), .unset, .unset, .unset, .unset, .unset, .unset, .unset, .unset, .unset] [(.int (((p0.toUInt32 >>> ((4 : Int32) &&& 31).toUInt32).toInt32) &&& (7 : Int32)))]))
  obtain ⟨md, hv_md⟩ : ∃ q : Int32, q = (((p0.toUInt32 >>> ((4 : Int32) &&& 31).toUInt32).toInt32) &&& (7 : Int32)) := ⟨_, rfl⟩
  rw [← hv_md]
  show OwnGo _ _ _ _ (s₁.setTop (mkF m 13 #[.val (.int p0), .val (.int p1), .val (.int p2), .val (.int p3), .val (.int p4), .val (.int p5), .val (.int nn), .unset, .unset, .unset, .unset, .unset, .unset, .unset, .unset, .unset] [(.int md)]))
  refine OwnGo.fwd (fun tq' kq' => XS.istore X0.here hx rfl (hb hby at_13) rfl (l' := #[.val (.int p0), .val (.int p1), .val (.int p2), .val (.int p3), .val (.int p4), .val (.int p5), .val (.int nn), .val (.int md), .unset, .unset, .unset, .unset, .unset, .unset, .unset, .unset]) rfl kq') ?_
  show OwnGo _ _ _ _ (s₁.setTop (mkF m 15 #[.val (.int p0), .val (.int p1), .val (.int p2), .val (.int p3), .val (.int p4), .val (.int p5), .val (.int nn), .val (.int md), .unset, .unset, .unset, .unset, .unset, .unset, .unset, .unset] []))
  refine OwnGo.fwd (fun tq' kq' => XS.iloadN X0.here hx rfl (hb hby at_15) rfl kq') ?_
  show OwnGo _ _ _ _ (s₁.setTop (mkF m 16 #[.val (.int p0), .val (.int p1), .val (.int p2), .val (.int p3), .val (.int p4), .val (.int p5), .val (.int nn), .val (.int md), .unset, .unset, .unset, .unset, .unset, .unset, .unset, .unset] [(.int p0)]))
  refine OwnGo.fwd (fun tq' kq' => XS.bipush X0.here hx rfl (hb hby at_16) kq') ?_
  show OwnGo _ _ _ _ (s₁.setTop (mkF m 18 #[.val (.int p0), .val (.int p1), .val (.int p2), .val (.int p3), .val (.int p4), .val (.int p5), .val (.int nn), .val (.int md), .unset, .unset, .unset, .unset, .unset, .unset, .unset, .unset] [(.int (7 : Int32)), (.int p0)]))
  refine OwnGo.fwd (fun tq' kq' => XS.iushr X0.here hx rfl (hb hby at_18) rfl kq') ?_
  show OwnGo _ _ _ _ (s₁.setTop (mkF m 19 #[.val (.int p0), .val (.int p1), .val (.int p2), .val (.int p3), .val (.int p4), .val (.int p5), .val (.int nn), .val (.int md), .unset, .unset, .unset, .unset, .unset, .unset, .unset, .unset] [(.int ((p0.toUInt32 >>> ((7 : Int32) &&& 31).toUInt32).toInt32))]))
  refine OwnGo.fwd (fun tq' kq' => XS.bipush X0.here hx rfl (hb hby at_19) kq') ?_
  show OwnGo _ _ _ _ (s₁.setTop (mkF m 21 #[.val (.int p0), .val (.int p1), .val (.int p2), .val (.int p3), .val (.int p4), .val (.int p5), .val (.int nn), .val (.int md), .unset, .unset, .unset, .unset, .unset, .unset, .unset, .unset] [(.int (7 : Int32)), (.int ((p0.toUInt32 >>> ((7 : Int32) &&& 31).toUInt32).toInt32))]))
  refine OwnGo.fwd (fun tq' kq' => XS.iand X0.here hx rfl (hb hby at_21) rfl kq') ?_
  show OwnGo _ _ _ _ (s₁.setTop (mkF m 22 #[.val (.int p0), .val (.int p1), .val (.int p2), .val (.int p3), .val (.int p4), .val (.int p5), .val (.int nn), .val (.int md), .unset, .unset, .unset, .unset, .unset, .unset, .unset, .unset] [(.int (((p0.toUInt32 >>> ((7 : Int32) &&& 31).toUInt32).toInt32) &&& (7 : Int32)))]))
  refine OwnGo.fwd (fun tq' kq' => XS.iconst X0.here hx rfl (hb hby at_22) kq') ?_
  show OwnGo _ _ _ _ (s₁.setTop (mkF m 23 #[.val (.int p0), .val (.int p1), .val (.int p2), .val (.int p3), .val (.int p4), .val (.int p5), .val (.int nn), .val (.int md), .unset, .unset, .unset, .unset, .unset, .unset, .unset, .unset] [(.int (2 : Int32)), (.int (((p0.toUInt32 >>> ((7 : Int32) &&& 31).toUInt32).toInt32) &&& (7 : Int32)))]))
  refine OwnGo.fwd (fun tq' kq' => XS.isub X0.here hx rfl (hb hby at_23) rfl kq') ?_
  show OwnGo _ _ _ _ (s₁.setTop (mkF m 24 #[.val (.int p0), .val (.int p1), .val (.int p2), .val (.int p3), .val (.int p4), .val (.int p5), .val (.int nn), .val (.int md), .unset, .unset, .unset, .unset, .unset, .unset, .unset, .unset] [(.int ((((p0.toUInt32 >>> ((7 : Int32) &&& 31).toUInt32).toInt32) &&& (7 : Int32)) - (2 : Int32)))]))
  obtain ⟨ca, hv_ca⟩ : ∃ q : Int32, q = ((((p0.toUInt32 >>> ((7 : Int32) &&& 31).toUInt32).toInt32) &&& (7 : Int32)) - (2 : Int32)) := ⟨_, rfl⟩
  rw [← hv_ca]
  show OwnGo _ _ _ _ (s₁.setTop (mkF m 24 #[.val (.int p0), .val (.int p1), .val (.int p2), .val (.int p3), .val (.int p4), .val (.int p5), .val (.int nn), .val (.int md), .unset, .unset, .unset, .unset, .unset, .unset, .unset, .unset] [(.int ca)]))
  have hca : ca.toInt ≤ 5 := by rw [hv_ca]; exact own_le5 _
  refine OwnGo.fwd (fun tq' kq' => XS.istore X0.here hx rfl (hb hby at_24) rfl (l' := #[.val (.int p0), .val (.int p1), .val (.int p2), .val (.int p3), .val (.int p4), .val (.int p5), .val (.int nn), .val (.int md), .val (.int ca), .unset, .unset, .unset, .unset, .unset, .unset, .unset]) rfl kq') ?_
  show OwnGo _ _ _ _ (s₁.setTop (mkF m 26 #[.val (.int p0), .val (.int p1), .val (.int p2), .val (.int p3), .val (.int p4), .val (.int p5), .val (.int nn), .val (.int md), .val (.int ca), .unset, .unset, .unset, .unset, .unset, .unset, .unset] []))
  refine OwnGo.fwd (fun tq' kq' => XS.iloadN X0.here hx rfl (hb hby at_26) rfl kq') ?_
  show OwnGo _ _ _ _ (s₁.setTop (mkF m 27 #[.val (.int p0), .val (.int p1), .val (.int p2), .val (.int p3), .val (.int p4), .val (.int p5), .val (.int nn), .val (.int md), .val (.int ca), .unset, .unset, .unset, .unset, .unset, .unset, .unset] [(.int p1)]))
  refine OwnGo.fwd (fun tq' kq' => X0.ldcInt hx hown (mvT hZ (hw _ (List.mem_of_getElem? (i := 0) rfl))) (g := (mkF m 27 #[.val (.int p0), .val (.int p1), .val (.int p2), .val (.int p3), .val (.int p4), .val (.int p5), .val (.int nn), .val (.int md), .val (.int ca), .unset, .unset, .unset, .unset, .unset, .unset, .unset] [(.int p1)])) rfl (hb hby at_27) tq' kq') ?_
  show OwnGo _ _ _ _ (s₁.setTop (mkF m 29 #[.val (.int p0), .val (.int p1), .val (.int p2), .val (.int p3), .val (.int p4), .val (.int p5), .val (.int nn), .val (.int md), .val (.int ca), .unset, .unset, .unset, .unset, .unset, .unset, .unset] [(.int (2147483047 : Int32)), (.int p1)]))
  have J41 : ∀ d0 : Int32, d0.toInt ≤ 2147483047 → OwnGo p.tables e below (OwnEnd s (Q0 Z p0 p1 p2 p3 p4 p5 h0 n0) room_1.cells room_1.slots) (s₁.setTop (mkF m 41 #[.val (.int p0), .val (.int p1), .val (.int p2), .val (.int p3), .val (.int p4), .val (.int p5), .val (.int nn), .val (.int md), .val (.int ca), .unset, .unset, .unset, .unset, .unset, .unset, .unset] [(.int d0)])) := by
    intro d0 hd0
    show OwnGo _ _ _ _ (s₁.setTop (mkF m 41 #[.val (.int p0), .val (.int p1), .val (.int p2), .val (.int p3), .val (.int p4), .val (.int p5), .val (.int nn), .val (.int md), .val (.int ca), .unset, .unset, .unset, .unset, .unset, .unset, .unset] [(.int d0)]))
    refine OwnGo.fwd (fun tq' kq' => XS.istore X0.here hx rfl (hb hby at_41) rfl (l' := #[.val (.int p0), .val (.int p1), .val (.int p2), .val (.int p3), .val (.int p4), .val (.int p5), .val (.int nn), .val (.int md), .val (.int ca), .val (.int d0), .unset, .unset, .unset, .unset, .unset, .unset]) rfl kq') ?_
    show OwnGo _ _ _ _ (s₁.setTop (mkF m 43 #[.val (.int p0), .val (.int p1), .val (.int p2), .val (.int p3), .val (.int p4), .val (.int p5), .val (.int nn), .val (.int md), .val (.int ca), .val (.int d0), .unset, .unset, .unset, .unset, .unset, .unset] []))
    refine OwnGo.fwd (fun tq' kq' => XS.iload X0.here hx rfl (hb hby at_43) rfl kq') ?_
    show OwnGo _ _ _ _ (s₁.setTop (mkF m 45 #[.val (.int p0), .val (.int p1), .val (.int p2), .val (.int p3), .val (.int p4), .val (.int p5), .val (.int nn), .val (.int md), .val (.int ca), .val (.int d0), .unset, .unset, .unset, .unset, .unset, .unset] [(.int d0)]))
    refine OwnGo.fwd (fun tq' kq' => XS.iloadN X0.here hx rfl (hb hby at_45) rfl kq') ?_
    show OwnGo _ _ _ _ (s₁.setTop (mkF m 46 #[.val (.int p0), .val (.int p1), .val (.int p2), .val (.int p3), .val (.int p4), .val (.int p5), .val (.int nn), .val (.int md), .val (.int ca), .val (.int d0), .unset, .unset, .unset, .unset, .unset, .unset] [(.int p2), (.int d0)]))
    refine OwnGo.fwd (fun tq' kq' => XS.sipush X0.here hx rfl (hb hby at_46) kq') ?_
    show OwnGo _ _ _ _ (s₁.setTop (mkF m 49 #[.val (.int p0), .val (.int p1), .val (.int p2), .val (.int p3), .val (.int p4), .val (.int p5), .val (.int nn), .val (.int md), .val (.int ca), .val (.int d0), .unset, .unset, .unset, .unset, .unset, .unset] [(.int (255 : Int32)), (.int p2), (.int d0)]))
    refine OwnGo.fwd (fun tq' kq' => XS.iand X0.here hx rfl (hb hby at_49) rfl kq') ?_
    show OwnGo _ _ _ _ (s₁.setTop (mkF m 50 #[.val (.int p0), .val (.int p1), .val (.int p2), .val (.int p3), .val (.int p4), .val (.int p5), .val (.int nn), .val (.int md), .val (.int ca), .val (.int d0), .unset, .unset, .unset, .unset, .unset, .unset] [(.int (p2 &&& (255 : Int32))), (.int d0)]))
    refine OwnGo.fwd (fun tq' kq' => XS.iadd X0.here hx rfl (hb hby at_50) rfl kq') ?_
    show OwnGo _ _ _ _ (s₁.setTop (mkF m 51 #[.val (.int p0), .val (.int p1), .val (.int p2), .val (.int p3), .val (.int p4), .val (.int p5), .val (.int nn), .val (.int md), .val (.int ca), .val (.int d0), .unset, .unset, .unset, .unset, .unset, .unset] [(.int (d0 + (p2 &&& (255 : Int32))))]))
    refine OwnGo.fwd (fun tq' kq' => XS.iconst X0.here hx rfl (hb hby at_51) kq') ?_
    show OwnGo _ _ _ _ (s₁.setTop (mkF m 52 #[.val (.int p0), .val (.int p1), .val (.int p2), .val (.int p3), .val (.int p4), .val (.int p5), .val (.int nn), .val (.int md), .val (.int ca), .val (.int d0), .unset, .unset, .unset, .unset, .unset, .unset] [(.int (1 : Int32)), (.int (d0 + (p2 &&& (255 : Int32))))]))
    refine OwnGo.fwd (fun tq' kq' => XS.iadd X0.here hx rfl (hb hby at_52) rfl kq') ?_
    show OwnGo _ _ _ _ (s₁.setTop (mkF m 53 #[.val (.int p0), .val (.int p1), .val (.int p2), .val (.int p3), .val (.int p4), .val (.int p5), .val (.int nn), .val (.int md), .val (.int ca), .val (.int d0), .unset, .unset, .unset, .unset, .unset, .unset] [(.int ((d0 + (p2 &&& (255 : Int32))) + (1 : Int32)))]))
    obtain ⟨d1, hv_d1⟩ : ∃ q : Int32, q = ((d0 + (p2 &&& (255 : Int32))) + (1 : Int32)) := ⟨_, rfl⟩
    rw [← hv_d1]
    show OwnGo _ _ _ _ (s₁.setTop (mkF m 53 #[.val (.int p0), .val (.int p1), .val (.int p2), .val (.int p3), .val (.int p4), .val (.int p5), .val (.int nn), .val (.int md), .val (.int ca), .val (.int d0), .unset, .unset, .unset, .unset, .unset, .unset] [(.int d1)]))
    have g1 := own_gap d0 p2 (by omega)
    rw [← hv_d1] at g1
    have h01 := g1.1
    refine OwnGo.fwd (fun tq' kq' => XS.istore X0.here hx rfl (hb hby at_53) rfl (l' := #[.val (.int p0), .val (.int p1), .val (.int p2), .val (.int p3), .val (.int p4), .val (.int p5), .val (.int nn), .val (.int md), .val (.int ca), .val (.int d0), .val (.int d1), .unset, .unset, .unset, .unset, .unset]) rfl kq') ?_
    show OwnGo _ _ _ _ (s₁.setTop (mkF m 55 #[.val (.int p0), .val (.int p1), .val (.int p2), .val (.int p3), .val (.int p4), .val (.int p5), .val (.int nn), .val (.int md), .val (.int ca), .val (.int d0), .val (.int d1), .unset, .unset, .unset, .unset, .unset] []))
    refine OwnGo.fwd (fun tq' kq' => XS.iload X0.here hx rfl (hb hby at_55) rfl kq') ?_
    show OwnGo _ _ _ _ (s₁.setTop (mkF m 57 #[.val (.int p0), .val (.int p1), .val (.int p2), .val (.int p3), .val (.int p4), .val (.int p5), .val (.int nn), .val (.int md), .val (.int ca), .val (.int d0), .val (.int d1), .unset, .unset, .unset, .unset, .unset] [(.int d1)]))
    refine OwnGo.fwd (fun tq' kq' => XS.iloadN X0.here hx rfl (hb hby at_57) rfl kq') ?_
    show OwnGo _ _ _ _ (s₁.setTop (mkF m 58 #[.val (.int p0), .val (.int p1), .val (.int p2), .val (.int p3), .val (.int p4), .val (.int p5), .val (.int nn), .val (.int md), .val (.int ca), .val (.int d0), .val (.int d1), .unset, .unset, .unset, .unset, .unset] [(.int p2), (.int d1)]))
    refine OwnGo.fwd (fun tq' kq' => XS.bipush X0.here hx rfl (hb hby at_58) kq') ?_
    show OwnGo _ _ _ _ (s₁.setTop (mkF m 60 #[.val (.int p0), .val (.int p1), .val (.int p2), .val (.int p3), .val (.int p4), .val (.int p5), .val (.int nn), .val (.int md), .val (.int ca), .val (.int d0), .val (.int d1), .unset, .unset, .unset, .unset, .unset] [(.int (8 : Int32)), (.int p2), (.int d1)]))
    refine OwnGo.fwd (fun tq' kq' => XS.iushr X0.here hx rfl (hb hby at_60) rfl kq') ?_
    show OwnGo _ _ _ _ (s₁.setTop (mkF m 61 #[.val (.int p0), .val (.int p1), .val (.int p2), .val (.int p3), .val (.int p4), .val (.int p5), .val (.int nn), .val (.int md), .val (.int ca), .val (.int d0), .val (.int d1), .unset, .unset, .unset, .unset, .unset] [(.int ((p2.toUInt32 >>> ((8 : Int32) &&& 31).toUInt32).toInt32)), (.int d1)]))
    refine OwnGo.fwd (fun tq' kq' => XS.sipush X0.here hx rfl (hb hby at_61) kq') ?_
    show OwnGo _ _ _ _ (s₁.setTop (mkF m 64 #[.val (.int p0), .val (.int p1), .val (.int p2), .val (.int p3), .val (.int p4), .val (.int p5), .val (.int nn), .val (.int md), .val (.int ca), .val (.int d0), .val (.int d1), .unset, .unset, .unset, .unset, .unset] [(.int (255 : Int32)), (.int ((p2.toUInt32 >>> ((8 : Int32) &&& 31).toUInt32).toInt32)), (.int d1)]))
    refine OwnGo.fwd (fun tq' kq' => XS.iand X0.here hx rfl (hb hby at_64) rfl kq') ?_
    show OwnGo _ _ _ _ (s₁.setTop (mkF m 65 #[.val (.int p0), .val (.int p1), .val (.int p2), .val (.int p3), .val (.int p4), .val (.int p5), .val (.int nn), .val (.int md), .val (.int ca), .val (.int d0), .val (.int d1), .unset, .unset, .unset, .unset, .unset] [(.int (((p2.toUInt32 >>> ((8 : Int32) &&& 31).toUInt32).toInt32) &&& (255 : Int32))), (.int d1)]))
    refine OwnGo.fwd (fun tq' kq' => XS.iadd X0.here hx rfl (hb hby at_65) rfl kq') ?_
    show OwnGo _ _ _ _ (s₁.setTop (mkF m 66 #[.val (.int p0), .val (.int p1), .val (.int p2), .val (.int p3), .val (.int p4), .val (.int p5), .val (.int nn), .val (.int md), .val (.int ca), .val (.int d0), .val (.int d1), .unset, .unset, .unset, .unset, .unset] [(.int (d1 + (((p2.toUInt32 >>> ((8 : Int32) &&& 31).toUInt32).toInt32) &&& (255 : Int32))))]))
    refine OwnGo.fwd (fun tq' kq' => XS.iconst X0.here hx rfl (hb hby at_66) kq') ?_
    show OwnGo _ _ _ _ (s₁.setTop (mkF m 67 #[.val (.int p0), .val (.int p1), .val (.int p2), .val (.int p3), .val (.int p4), .val (.int p5), .val (.int nn), .val (.int md), .val (.int ca), .val (.int d0), .val (.int d1), .unset, .unset, .unset, .unset, .unset] [(.int (1 : Int32)), (.int (d1 + (((p2.toUInt32 >>> ((8 : Int32) &&& 31).toUInt32).toInt32) &&& (255 : Int32))))]))
    refine OwnGo.fwd (fun tq' kq' => XS.iadd X0.here hx rfl (hb hby at_67) rfl kq') ?_
    show OwnGo _ _ _ _ (s₁.setTop (mkF m 68 #[.val (.int p0), .val (.int p1), .val (.int p2), .val (.int p3), .val (.int p4), .val (.int p5), .val (.int nn), .val (.int md), .val (.int ca), .val (.int d0), .val (.int d1), .unset, .unset, .unset, .unset, .unset] [(.int ((d1 + (((p2.toUInt32 >>> ((8 : Int32) &&& 31).toUInt32).toInt32) &&& (255 : Int32))) + (1 : Int32)))]))
    obtain ⟨d2, hv_d2⟩ : ∃ q : Int32, q = ((d1 + (((p2.toUInt32 >>> ((8 : Int32) &&& 31).toUInt32).toInt32) &&& (255 : Int32))) + (1 : Int32)) := ⟨_, rfl⟩
    rw [← hv_d2]
    show OwnGo _ _ _ _ (s₁.setTop (mkF m 68 #[.val (.int p0), .val (.int p1), .val (.int p2), .val (.int p3), .val (.int p4), .val (.int p5), .val (.int nn), .val (.int md), .val (.int ca), .val (.int d0), .val (.int d1), .unset, .unset, .unset, .unset, .unset] [(.int d2)]))
    have g2 := own_gap d1 ((p2.toUInt32 >>> ((8 : Int32) &&& 31).toUInt32).toInt32) (by omega)
    rw [← hv_d2] at g2
    have h12 := g2.1
    refine OwnGo.fwd (fun tq' kq' => XS.istore X0.here hx rfl (hb hby at_68) rfl (l' := #[.val (.int p0), .val (.int p1), .val (.int p2), .val (.int p3), .val (.int p4), .val (.int p5), .val (.int nn), .val (.int md), .val (.int ca), .val (.int d0), .val (.int d1), .val (.int d2), .unset, .unset, .unset, .unset]) rfl kq') ?_
    show OwnGo _ _ _ _ (s₁.setTop (mkF m 70 #[.val (.int p0), .val (.int p1), .val (.int p2), .val (.int p3), .val (.int p4), .val (.int p5), .val (.int nn), .val (.int md), .val (.int ca), .val (.int d0), .val (.int d1), .val (.int d2), .unset, .unset, .unset, .unset] []))
    refine OwnGo.fwd (fun tq' kq' => XS.iloadN X0.here hx rfl (hb hby at_70) rfl kq') ?_
    show OwnGo _ _ _ _ (s₁.setTop (mkF m 71 #[.val (.int p0), .val (.int p1), .val (.int p2), .val (.int p3), .val (.int p4), .val (.int p5), .val (.int nn), .val (.int md), .val (.int ca), .val (.int d0), .val (.int d1), .val (.int d2), .unset, .unset, .unset, .unset] [(.int p3)]))
    refine OwnGo.fwd (fun tq' kq' => XS.iconst X0.here hx rfl (hb hby at_71) kq') ?_
    show OwnGo _ _ _ _ (s₁.setTop (mkF m 72 #[.val (.int p0), .val (.int p1), .val (.int p2), .val (.int p3), .val (.int p4), .val (.int p5), .val (.int nn), .val (.int md), .val (.int ca), .val (.int d0), .val (.int d1), .val (.int d2), .unset, .unset, .unset, .unset] [(.int (-1 : Int32)), (.int p3)]))
    refine OwnGo.fwd (fun tq' kq' => XS.ixor X0.here hx rfl (hb hby at_72) rfl kq') ?_
    show OwnGo _ _ _ _ (s₁.setTop (mkF m 73 #[.val (.int p0), .val (.int p1), .val (.int p2), .val (.int p3), .val (.int p4), .val (.int p5), .val (.int nn), .val (.int md), .val (.int ca), .val (.int d0), .val (.int d1), .val (.int d2), .unset, .unset, .unset, .unset] [(.int (p3 ^^^ (-1 : Int32)))]))
    obtain ⟨y2, hv_y2⟩ : ∃ q : Int32, q = (p3 ^^^ (-1 : Int32)) := ⟨_, rfl⟩
    rw [← hv_y2]
    show OwnGo _ _ _ _ (s₁.setTop (mkF m 73 #[.val (.int p0), .val (.int p1), .val (.int p2), .val (.int p3), .val (.int p4), .val (.int p5), .val (.int nn), .val (.int md), .val (.int ca), .val (.int d0), .val (.int d1), .val (.int d2), .unset, .unset, .unset, .unset] [(.int y2)]))
    refine OwnGo.fwd (fun tq' kq' => XS.istore X0.here hx rfl (hb hby at_73) rfl (l' := #[.val (.int p0), .val (.int p1), .val (.int p2), .val (.int p3), .val (.int p4), .val (.int p5), .val (.int nn), .val (.int md), .val (.int ca), .val (.int d0), .val (.int d1), .val (.int d2), .val (.int y2), .unset, .unset, .unset]) rfl kq') ?_
    show OwnGo _ _ _ _ (s₁.setTop (mkF m 75 #[.val (.int p0), .val (.int p1), .val (.int p2), .val (.int p3), .val (.int p4), .val (.int p5), .val (.int nn), .val (.int md), .val (.int ca), .val (.int d0), .val (.int d1), .val (.int d2), .val (.int y2), .unset, .unset, .unset] []))
    obtain ⟨T1, h1, X1, e1, E1, A1, D1, -, st1⟩ := newO X0 hx hZ hown (hw _ (List.mem_of_getElem? (i := 1) rfl)) (hw _ (List.mem_of_getElem? (i := 2) rfl)) (hw _ (List.mem_of_getElem? (i := 3) rfl)) e0 (g := (mkF m 75 #[.val (.int p0), .val (.int p1), .val (.int p2), .val (.int p3), .val (.int p4), .val (.int p5), .val (.int nn), .val (.int md), .val (.int ca), .val (.int d0), .val (.int d1), .val (.int d2), .val (.int y2), .unset, .unset, .unset] [])) rfl (hb hby at_75) (by decide) (by decide)
    obtain ⟨b1, g1⟩ : ∃ z, z = h0.size := ⟨_, rfl⟩
    rw [← g1] at A1 D1 st1
    have g_b1 : n0 ≤ b1 := Nat.le_trans Zs (Nat.le_of_eq g1.symm)
    have Zs := Nat.le_trans Zs E1.1
    have E_b1 := A1
    have F_documents_b1 : Fld Z h1 b1 "com/example/inverse_frequency/inversefrequency/Postings" "documents" "[I" .null := D1 (Or.inl (hw _ (List.mem_of_getElem? (i := 16) rfl))) (ty := (.array .int)) (by decide)
    have F_frequencies_b1 : Fld Z h1 b1 "com/example/inverse_frequency/inversefrequency/Postings" "frequencies" "[I" .null := D1 (Or.inl (hw _ (List.mem_of_getElem? (i := 18) rfl))) (ty := (.array .int)) (by decide)
    have F_size_b1 : Fld Z h1 b1 "com/example/inverse_frequency/inversefrequency/Postings" "size" "I" (.int (0 : Int32)) := D1 (Or.inl (hw _ (List.mem_of_getElem? (i := 25) rfl))) (ty := .int) (by decide)
    have F_totalFrequency_b1 : Fld Z h1 b1 "com/example/inverse_frequency/inversefrequency/Postings" "totalFrequency" "J" (.long (0 : Int64)) := D1 (Or.inl (hw _ (List.mem_of_getElem? (i := 42) rfl))) (ty := .long) (by decide)
    refine OwnGo.fwd st1 ?_
    show OwnGo _ _ _ _ (T1.setTop (mkF m 78 #[.val (.int p0), .val (.int p1), .val (.int p2), .val (.int p3), .val (.int p4), .val (.int p5), .val (.int nn), .val (.int md), .val (.int ca), .val (.int d0), .val (.int d1), .val (.int d2), .val (.int y2), .unset, .unset, .unset] [(.ref b1)]))
    refine OwnGo.fwd (fun tq' kq' => XS.dup X1.here hx rfl (hb hby at_78) rfl rfl kq') ?_
    show OwnGo _ _ _ _ (T1.setTop (mkF m 79 #[.val (.int p0), .val (.int p1), .val (.int p2), .val (.int p3), .val (.int p4), .val (.int p5), .val (.int nn), .val (.int md), .val (.int ca), .val (.int d0), .val (.int d1), .val (.int d2), .val (.int y2), .unset, .unset, .unset] [(.ref b1), (.ref b1)]))
    refine OwnGo.fwd (fun tq' kq' => XS.iload X1.here hx rfl (hb hby at_79) rfl kq') ?_
    show OwnGo _ _ _ _ (T1.setTop (mkF m 81 #[.val (.int p0), .val (.int p1), .val (.int p2), .val (.int p3), .val (.int p4), .val (.int p5), .val (.int nn), .val (.int md), .val (.int ca), .val (.int d0), .val (.int d1), .val (.int d2), .val (.int y2), .unset, .unset, .unset] [(.int ca), (.ref b1), (.ref b1)]))
    obtain ⟨_, _, ⟨T2, L2, k2, n2⟩, -, X2, ⟨Lc2, hQ2, l2, y2, z2⟩, st2⟩ := X1.specialBack hx (y := (⟨"com/example/inverse_frequency/inversefrequency/Postings", "<init>", "(I)V"⟩ : MethodName)) rfl hown (mvT hZ (hw _ (List.mem_of_getElem? (i := 4) rfl))) (mvT hZ (hw _ (List.mem_of_getElem? (i := 5) rfl))) (mvT hZ (hw _ (List.mem_of_getElem? (i := 6) rfl))) (by decide) (backOf (W := 1) (rm1 l Z a0 hw [] b1 ca h1 n0 Zs E_b1 F_documents_b1 F_frequencies_b1 F_size_b1 F_totalFrequency_b1 g_b1 hca) hZ (hw _ (List.mem_of_getElem? (i := 6) rfl)) (hw _ (List.mem_of_getElem? (i := 3) rfl)) (by decide) (by decide)) (g := (mkF m 81 #[.val (.int p0), .val (.int p1), .val (.int p2), .val (.int p3), .val (.int p4), .val (.int p5), .val (.int nn), .val (.int md), .val (.int ca), .val (.int d0), .val (.int d1), .val (.int d2), .val (.int y2), .unset, .unset, .unset] [(.int ca), (.ref b1), (.ref b1)])) rfl (by rw [hml]; rfl) (Steps.refl _) (a := b1) (argsL := [(.int ca)]) (rest := [(.ref b1)]) (lenOf pd_0 rfl) rfl (by show 2 * 0 + _ ≤ _; exact Nat.le_of_eq rfl) (hb hby at_81) (fun _ _ => ⟨rfl, e1, (by decide : 1 + 2 ≤ _), (by decide : 4 + 10 ≤ _)⟩)
    dsimp only [Pt.U, Pt.locs, Pt.cells, Pt.slots] at X2 l2 y2 z2 st2 hQ2
    subst l2 y2 z2
    obtain ⟨h2, eh2⟩ : ∃ z, z = T2.heap := ⟨_, rfl⟩
    rw [← eh2] at hQ2
    obtain ⟨rfl, N2q, K2, da, fa, cp, hcp1, hcp4, sz_da, sz_fa, E_b1, F_documents_b1, F_frequencies_b1, F_size_b1, F_totalFrequency_b1, V_da, V_fa, ne_b1_da, ne_b1_fa, ne_da_fa, g_b1, g_da, g_fa⟩ := hQ2
    have N := Fr.app N N2q
    have Zs := Nat.le_trans Zs K2.1
    refine OwnGo.thru st2 ?_
    show OwnGo _ _ _ _ (T2.setTop (mkF m 84 #[.val (.int p0), .val (.int p1), .val (.int p2), .val (.int p3), .val (.int p4), .val (.int p5), .val (.int nn), .val (.int md), .val (.int ca), .val (.int d0), .val (.int d1), .val (.int d2), .val (.int y2), .unset, .unset, .unset] [(.ref b1)]))
    refine OwnGo.fwd (fun tq' kq' => XS.astore X2.here hx rfl (hb hby at_84) rfl rfl (l' := #[.val (.int p0), .val (.int p1), .val (.int p2), .val (.int p3), .val (.int p4), .val (.int p5), .val (.int nn), .val (.int md), .val (.int ca), .val (.int d0), .val (.int d1), .val (.int d2), .val (.int y2), .val (.ref b1), .unset, .unset]) rfl kq') ?_
    show OwnGo _ _ _ _ (T2.setTop (mkF m 86 #[.val (.int p0), .val (.int p1), .val (.int p2), .val (.int p3), .val (.int p4), .val (.int p5), .val (.int nn), .val (.int md), .val (.int ca), .val (.int d0), .val (.int d1), .val (.int d2), .val (.int y2), .val (.ref b1), .unset, .unset] []))
    rcases (show nn = (0 : Int32) ∨ nn = (1 : Int32) ∨ nn = (2 : Int32) ∨ nn = (3 : Int32) from hnn) with rfl | rfl | rfl | rfl
    · show OwnGo _ _ _ _ (T2.setTop (mkF m 86 #[.val (.int p0), .val (.int p1), .val (.int p2), .val (.int p3), .val (.int p4), .val (.int p5), .val (.int (0 : Int32)), .val (.int md), .val (.int ca), .val (.int d0), .val (.int d1), .val (.int d2), .val (.int y2), .val (.ref b1), .unset, .unset] []))
      refine OwnGo.fwd (fun tq' kq' => XS.iload X2.here hx rfl (hb hby at_86) rfl kq') ?_
      show OwnGo _ _ _ _ (T2.setTop (mkF m 88 #[.val (.int p0), .val (.int p1), .val (.int p2), .val (.int p3), .val (.int p4), .val (.int p5), .val (.int (0 : Int32)), .val (.int md), .val (.int ca), .val (.int d0), .val (.int d1), .val (.int d2), .val (.int y2), .val (.ref b1), .unset, .unset] [(.int (0 : Int32))]))
      have hc88_3 : ¬ ((0 : Int) < (0 : Int)) := by decide
      refine OwnGo.fwd (fun tq' kq' => XS.ifYes X2.here hx rfl (pc0 := 88) (pc' := 99) rfl (hb hby at_88) rfl ((if0 _ _).trans (own_bnlt (by decide) (by decide) hc88_3).2.2.2) (by decide) (by decide) kq') ?_
      show OwnGo _ _ _ _ (T2.setTop (mkF m 99 #[.val (.int p0), .val (.int p1), .val (.int p2), .val (.int p3), .val (.int p4), .val (.int p5), .val (.int (0 : Int32)), .val (.int md), .val (.int ca), .val (.int d0), .val (.int d1), .val (.int d2), .val (.int y2), .val (.ref b1), .unset, .unset] []))
      refine OwnGo.fwd (fun tq' kq' => XS.iload X2.here hx rfl (hb hby at_99) rfl kq') ?_
      show OwnGo _ _ _ _ (T2.setTop (mkF m 101 #[.val (.int p0), .val (.int p1), .val (.int p2), .val (.int p3), .val (.int p4), .val (.int p5), .val (.int (0 : Int32)), .val (.int md), .val (.int ca), .val (.int d0), .val (.int d1), .val (.int d2), .val (.int y2), .val (.ref b1), .unset, .unset] [(.int (0 : Int32))]))
      refine OwnGo.fwd (fun tq' kq' => XS.iconst X2.here hx rfl (hb hby at_101) kq') ?_
      show OwnGo _ _ _ _ (T2.setTop (mkF m 102 #[.val (.int p0), .val (.int p1), .val (.int p2), .val (.int p3), .val (.int p4), .val (.int p5), .val (.int (0 : Int32)), .val (.int md), .val (.int ca), .val (.int d0), .val (.int d1), .val (.int d2), .val (.int y2), .val (.ref b1), .unset, .unset] [(.int (1 : Int32)), (.int (0 : Int32))]))
      have hc102_4 : ¬ ((1 : Int) < (0 : Int)) := by decide
      refine OwnGo.fwd (fun tq' kq' => XS.icmpYes X2.here hx rfl (pc0 := 102) (pc' := 114) rfl (hb hby at_102) rfl (own_bnlt (by decide) (by decide) hc102_4).2.2.2 (by decide) (by decide) kq') ?_
      show OwnGo _ _ _ _ (T2.setTop (mkF m 114 #[.val (.int p0), .val (.int p1), .val (.int p2), .val (.int p3), .val (.int p4), .val (.int p5), .val (.int (0 : Int32)), .val (.int md), .val (.int ca), .val (.int d0), .val (.int d1), .val (.int d2), .val (.int y2), .val (.ref b1), .unset, .unset] []))
      refine OwnGo.fwd (fun tq' kq' => XS.iload X2.here hx rfl (hb hby at_114) rfl kq') ?_
      show OwnGo _ _ _ _ (T2.setTop (mkF m 116 #[.val (.int p0), .val (.int p1), .val (.int p2), .val (.int p3), .val (.int p4), .val (.int p5), .val (.int (0 : Int32)), .val (.int md), .val (.int ca), .val (.int d0), .val (.int d1), .val (.int d2), .val (.int y2), .val (.ref b1), .unset, .unset] [(.int (0 : Int32))]))
      refine OwnGo.fwd (fun tq' kq' => XS.iconst X2.here hx rfl (hb hby at_116) kq') ?_
      show OwnGo _ _ _ _ (T2.setTop (mkF m 117 #[.val (.int p0), .val (.int p1), .val (.int p2), .val (.int p3), .val (.int p4), .val (.int p5), .val (.int (0 : Int32)), .val (.int md), .val (.int ca), .val (.int d0), .val (.int d1), .val (.int d2), .val (.int y2), .val (.ref b1), .unset, .unset] [(.int (2 : Int32)), (.int (0 : Int32))]))
      have hc117_5 : ¬ ((2 : Int) < (0 : Int)) := by decide
      refine OwnGo.fwd (fun tq' kq' => XS.icmpYes X2.here hx rfl (pc0 := 117) (pc' := 129) rfl (hb hby at_117) rfl (own_bnlt (by decide) (by decide) hc117_5).2.2.2 (by decide) (by decide) kq') ?_
      show OwnGo _ _ _ _ (T2.setTop (mkF m 129 #[.val (.int p0), .val (.int p1), .val (.int p2), .val (.int p3), .val (.int p4), .val (.int p5), .val (.int (0 : Int32)), .val (.int md), .val (.int ca), .val (.int d0), .val (.int d1), .val (.int d2), .val (.int y2), .val (.ref b1), .unset, .unset] []))
      have J216 : ∀ qq : Int32, OwnGo p.tables e below (OwnEnd s (Q0 Z p0 p1 p2 p3 p4 p5 h0 n0) room_1.cells room_1.slots) (T2.setTop (mkF m 216 #[.val (.int p0), .val (.int p1), .val (.int p2), .val (.int p3), .val (.int p4), .val (.int p5), .val (.int (0 : Int32)), .val (.int md), .val (.int ca), .val (.int d0), .val (.int d1), .val (.int d2), .val (.int y2), .val (.ref b1), .val (.int qq), .unset] [])) := by
        intro qq
        show OwnGo _ _ _ _ (T2.setTop (mkF m 216 #[.val (.int p0), .val (.int p1), .val (.int p2), .val (.int p3), .val (.int p4), .val (.int p5), .val (.int (0 : Int32)), .val (.int md), .val (.int ca), .val (.int d0), .val (.int d1), .val (.int d2), .val (.int y2), .val (.ref b1), .val (.int qq), .unset] []))
        refine OwnGo.fwd (fun tq' kq' => XS.iconst X2.here hx rfl (hb hby at_216) kq') ?_
        show OwnGo _ _ _ _ (T2.setTop (mkF m 217 #[.val (.int p0), .val (.int p1), .val (.int p2), .val (.int p3), .val (.int p4), .val (.int p5), .val (.int (0 : Int32)), .val (.int md), .val (.int ca), .val (.int d0), .val (.int d1), .val (.int d2), .val (.int y2), .val (.ref b1), .val (.int qq), .unset] [(.int (0 : Int32))]))
        refine OwnGo.fwd (fun tq' kq' => XS.istore X2.here hx rfl (hb hby at_217) rfl (l' := #[.val (.int p0), .val (.int p1), .val (.int p2), .val (.int p3), .val (.int p4), .val (.int p5), .val (.int (0 : Int32)), .val (.int md), .val (.int ca), .val (.int d0), .val (.int d1), .val (.int d2), .val (.int y2), .val (.ref b1), .val (.int qq), .val (.int (0 : Int32))]) rfl kq') ?_
        show OwnGo _ _ _ _ (T2.setTop (mkF m 219 #[.val (.int p0), .val (.int p1), .val (.int p2), .val (.int p3), .val (.int p4), .val (.int p5), .val (.int (0 : Int32)), .val (.int md), .val (.int ca), .val (.int d0), .val (.int d1), .val (.int d2), .val (.int y2), .val (.ref b1), .val (.int qq), .val (.int (0 : Int32))] []))
        refine OwnGo.fwd (fun tq' kq' => XS.iload X2.here hx rfl (hb hby at_219) rfl kq') ?_
        show OwnGo _ _ _ _ (T2.setTop (mkF m 221 #[.val (.int p0), .val (.int p1), .val (.int p2), .val (.int p3), .val (.int p4), .val (.int p5), .val (.int (0 : Int32)), .val (.int md), .val (.int ca), .val (.int d0), .val (.int d1), .val (.int d2), .val (.int y2), .val (.ref b1), .val (.int qq), .val (.int (0 : Int32))] [(.int (0 : Int32))]))
        have hc221_6 : ¬ ((0 : Int) < (0 : Int)) := by decide
        refine OwnGo.fwd (fun tq' kq' => XS.ifYes X2.here hx rfl (pc0 := 221) (pc' := 234) rfl (hb hby at_221) rfl ((if0 _ _).trans (own_bnlt (by decide) (by decide) hc221_6).2.2.2) (by decide) (by decide) kq') ?_
        show OwnGo _ _ _ _ (T2.setTop (mkF m 234 #[.val (.int p0), .val (.int p1), .val (.int p2), .val (.int p3), .val (.int p4), .val (.int p5), .val (.int (0 : Int32)), .val (.int md), .val (.int ca), .val (.int d0), .val (.int d1), .val (.int d2), .val (.int y2), .val (.ref b1), .val (.int qq), .val (.int (0 : Int32))] []))
        refine OwnGo.fwd (fun tq' kq' => XS.iload X2.here hx rfl (hb hby at_234) rfl kq') ?_
        show OwnGo _ _ _ _ (T2.setTop (mkF m 236 #[.val (.int p0), .val (.int p1), .val (.int p2), .val (.int p3), .val (.int p4), .val (.int p5), .val (.int (0 : Int32)), .val (.int md), .val (.int ca), .val (.int d0), .val (.int d1), .val (.int d2), .val (.int y2), .val (.ref b1), .val (.int qq), .val (.int (0 : Int32))] [(.int (0 : Int32))]))
        refine OwnGo.fwd (fun tq' kq' => XS.iconst X2.here hx rfl (hb hby at_236) kq') ?_
        show OwnGo _ _ _ _ (T2.setTop (mkF m 237 #[.val (.int p0), .val (.int p1), .val (.int p2), .val (.int p3), .val (.int p4), .val (.int p5), .val (.int (0 : Int32)), .val (.int md), .val (.int ca), .val (.int d0), .val (.int d1), .val (.int d2), .val (.int y2), .val (.ref b1), .val (.int qq), .val (.int (0 : Int32))] [(.int (1 : Int32)), (.int (0 : Int32))]))
        have hc237_7 : ¬ ((1 : Int) < (0 : Int)) := by decide
        refine OwnGo.fwd (fun tq' kq' => XS.icmpYes X2.here hx rfl (pc0 := 237) (pc' := 251) rfl (hb hby at_237) rfl (own_bnlt (by decide) (by decide) hc237_7).2.2.2 (by decide) (by decide) kq') ?_
        show OwnGo _ _ _ _ (T2.setTop (mkF m 251 #[.val (.int p0), .val (.int p1), .val (.int p2), .val (.int p3), .val (.int p4), .val (.int p5), .val (.int (0 : Int32)), .val (.int md), .val (.int ca), .val (.int d0), .val (.int d1), .val (.int d2), .val (.int y2), .val (.ref b1), .val (.int qq), .val (.int (0 : Int32))] []))
        refine OwnGo.fwd (fun tq' kq' => XS.iload X2.here hx rfl (hb hby at_251) rfl kq') ?_
        show OwnGo _ _ _ _ (T2.setTop (mkF m 253 #[.val (.int p0), .val (.int p1), .val (.int p2), .val (.int p3), .val (.int p4), .val (.int p5), .val (.int (0 : Int32)), .val (.int md), .val (.int ca), .val (.int d0), .val (.int d1), .val (.int d2), .val (.int y2), .val (.ref b1), .val (.int qq), .val (.int (0 : Int32))] [(.int (0 : Int32))]))
        refine OwnGo.fwd (fun tq' kq' => XS.iconst X2.here hx rfl (hb hby at_253) kq') ?_
        show OwnGo _ _ _ _ (T2.setTop (mkF m 254 #[.val (.int p0), .val (.int p1), .val (.int p2), .val (.int p3), .val (.int p4), .val (.int p5), .val (.int (0 : Int32)), .val (.int md), .val (.int ca), .val (.int d0), .val (.int d1), .val (.int d2), .val (.int y2), .val (.ref b1), .val (.int qq), .val (.int (0 : Int32))] [(.int (2 : Int32)), (.int (0 : Int32))]))
        have hc254_8 : ¬ ((2 : Int) < (0 : Int)) := by decide
        refine OwnGo.fwd (fun tq' kq' => XS.icmpYes X2.here hx rfl (pc0 := 254) (pc' := 268) rfl (hb hby at_254) rfl (own_bnlt (by decide) (by decide) hc254_8).2.2.2 (by decide) (by decide) kq') ?_
        show OwnGo _ _ _ _ (T2.setTop (mkF m 268 #[.val (.int p0), .val (.int p1), .val (.int p2), .val (.int p3), .val (.int p4), .val (.int p5), .val (.int (0 : Int32)), .val (.int md), .val (.int ca), .val (.int d0), .val (.int d1), .val (.int d2), .val (.int y2), .val (.ref b1), .val (.int qq), .val (.int (0 : Int32))] []))
        refine OwnGo.fwd (fun tq' kq' => XS.aload X2.here hx rfl (hb hby at_268) rfl rfl kq') ?_
        show OwnGo _ _ _ _ (T2.setTop (mkF m 270 #[.val (.int p0), .val (.int p1), .val (.int p2), .val (.int p3), .val (.int p4), .val (.int p5), .val (.int (0 : Int32)), .val (.int md), .val (.int ca), .val (.int d0), .val (.int d1), .val (.int d2), .val (.int y2), .val (.ref b1), .val (.int qq), .val (.int (0 : Int32))] [(.ref b1)]))
        refine OwnGo.fwd (fun tq' kq' => XS.iload X2.here hx rfl (hb hby at_270) rfl kq') ?_
        show OwnGo _ _ _ _ (T2.setTop (mkF m 272 #[.val (.int p0), .val (.int p1), .val (.int p2), .val (.int p3), .val (.int p4), .val (.int p5), .val (.int (0 : Int32)), .val (.int md), .val (.int ca), .val (.int d0), .val (.int d1), .val (.int d2), .val (.int y2), .val (.ref b1), .val (.int qq), .val (.int (0 : Int32))] [(.int qq), (.ref b1)]))
        obtain ⟨cq9, kq9, q9a, q9b, q9c⟩ := isOf hZ eh2.symm E_b1
        obtain ⟨_, _, ⟨T9, L9, k9, n9⟩, -, X9, ⟨Lc9, hQ9, l9, y9, z9⟩, st9⟩ := X2.virtualBack hx (y := (⟨"com/example/inverse_frequency/inversefrequency/Postings", "frequencyIn", "(I)I"⟩ : MethodName)) (z := (⟨"com/example/inverse_frequency/inversefrequency/Postings", "frequencyIn", "(I)I"⟩ : MethodName)) hown (mvT hZ (hw _ (List.mem_of_getElem? (i := 19) rfl))) (mvT hZ (hw _ (List.mem_of_getElem? (i := 20) rfl))) (notFace_of_selects (args := #[]) (mvT hZ (hw _ (List.mem_of_getElem? (i := 22) rfl)))) (mvT hZ (hw _ (List.mem_of_getElem? (i := 22) rfl))) (mvT hZ (hw _ (List.mem_of_getElem? (i := 21) rfl))) (by decide) (backOf (W := 0) (rm4n0 l Z a0 hw [] b1 da fa (0 : Int64) cp (fun _ => 0) (fun _ => 0) qq h2 n0 Zs ⟨E_b1, F_documents_b1, F_frequencies_b1, F_size_b1, F_totalFrequency_b1, V_da, V_fa, ne_b1_da, ne_b1_fa, ne_da_fa, g_b1, g_da, g_fa⟩ (by omega)) hZ (hw _ (List.mem_of_getElem? (i := 23) rfl)) (hw _ (List.mem_of_getElem? (i := 3) rfl)) (by decide) (by decide)) q9a q9c (g := (mkF m 272 #[.val (.int p0), .val (.int p1), .val (.int p2), .val (.int p3), .val (.int p4), .val (.int p5), .val (.int (0 : Int32)), .val (.int md), .val (.int ca), .val (.int d0), .val (.int d1), .val (.int d2), .val (.int y2), .val (.ref b1), .val (.int qq), .val (.int (0 : Int32))] [(.int qq), (.ref b1)])) rfl (by rw [hml]; rfl) (Steps.refl _) (argsL := [(.int qq)]) (rest := []) (lenOf pd_3 rfl) rfl (by show 2 * 0 + _ ≤ _; exact Nat.le_of_eq rfl) (hb hby at_272) (fun _ _ => ⟨rfl, eh2.symm, (by decide : 3 + 0 ≤ _), (by decide : 14 + 0 ≤ _)⟩)
        dsimp only [Pt.U, Pt.locs, Pt.cells, Pt.slots] at X9 l9 y9 z9 st9 hQ9
        subst l9 y9 z9
        obtain ⟨N9q, e9, r9, rfl, hr9⟩ := hQ9
        have N := Fr.app N N9q
        refine OwnGo.thru st9 ?_
        show OwnGo _ _ _ _ (T9.setTop (mkF m 275 #[.val (.int p0), .val (.int p1), .val (.int p2), .val (.int p3), .val (.int p4), .val (.int p5), .val (.int (0 : Int32)), .val (.int md), .val (.int ca), .val (.int d0), .val (.int d1), .val (.int d2), .val (.int y2), .val (.ref b1), .val (.int qq), .val (.int (0 : Int32))] [(.int r9)]))
        refine OwnGo.fwd (fun tq' kq' => XS.iload X9.here hx rfl (hb hby at_275) rfl kq') ?_
        show OwnGo _ _ _ _ (T9.setTop (mkF m 277 #[.val (.int p0), .val (.int p1), .val (.int p2), .val (.int p3), .val (.int p4), .val (.int p5), .val (.int (0 : Int32)), .val (.int md), .val (.int ca), .val (.int d0), .val (.int d1), .val (.int d2), .val (.int y2), .val (.ref b1), .val (.int qq), .val (.int (0 : Int32))] [(.int (0 : Int32)), (.int r9)]))
        have hc277_10 : r9.toInt = 0 := by
            rcases hr9 with ⟨i, hi, e, hr⟩ | ⟨hall, hr⟩
            · exact absurd hi (Nat.not_lt_zero _)
            · rw [hr] <;> first | rfl | omega
        refine OwnGo.fwd (fun tq' kq' => XS.icmpNo X9.here hx rfl (hb hby at_277) rfl (own_beq rfl (by decide) hc277_10).2 kq') ?_
        show OwnGo _ _ _ _ (T9.setTop (mkF m 280 #[.val (.int p0), .val (.int p1), .val (.int p2), .val (.int p3), .val (.int p4), .val (.int p5), .val (.int (0 : Int32)), .val (.int md), .val (.int ca), .val (.int d0), .val (.int d1), .val (.int d2), .val (.int y2), .val (.ref b1), .val (.int qq), .val (.int (0 : Int32))] []))
        refine OwnGo.fwd (fun tq' kq' => XS.iconst X9.here hx rfl (hb hby at_280) kq') ?_
        show OwnGo _ _ _ _ (T9.setTop (mkF m 281 #[.val (.int p0), .val (.int p1), .val (.int p2), .val (.int p3), .val (.int p4), .val (.int p5), .val (.int (0 : Int32)), .val (.int md), .val (.int ca), .val (.int d0), .val (.int d1), .val (.int d2), .val (.int y2), .val (.ref b1), .val (.int qq), .val (.int (0 : Int32))] [(.int (1 : Int32))]))
        refine OwnGo.fwd (fun tq' kq' => XS.goto X9.here hx rfl (pc0 := 281) (pc' := 285) rfl (hb hby at_281) (by decide) (by decide) kq') ?_
        show OwnGo _ _ _ _ (T9.setTop (mkF m 285 #[.val (.int p0), .val (.int p1), .val (.int p2), .val (.int p3), .val (.int p4), .val (.int p5), .val (.int (0 : Int32)), .val (.int md), .val (.int ca), .val (.int d0), .val (.int d1), .val (.int d2), .val (.int y2), .val (.ref b1), .val (.int qq), .val (.int (0 : Int32))] [(.int (1 : Int32))]))
        exact own_retZ X9 hlk hx Bd.returns (hb hby at_285) (by decide) (by decide) e9 ⟨rfl, N⟩
      refine OwnGo.fwd (fun tq' kq' => XS.iload X2.here hx rfl (hb hby at_129) rfl kq') ?_
      show OwnGo _ _ _ _ (T2.setTop (mkF m 131 #[.val (.int p0), .val (.int p1), .val (.int p2), .val (.int p3), .val (.int p4), .val (.int p5), .val (.int (0 : Int32)), .val (.int md), .val (.int ca), .val (.int d0), .val (.int d1), .val (.int d2), .val (.int y2), .val (.ref b1), .unset, .unset] [(.int md)]))
      by_cases hc131_11 : md.toInt = 0
      · refine OwnGo.fwd (fun tq' kq' => XS.ifNo X2.here hx rfl (hb hby at_131) rfl ((if0 _ _).trans (own_beq rfl (by decide) hc131_11).2) kq') ?_
        show OwnGo _ _ _ _ (T2.setTop (mkF m 134 #[.val (.int p0), .val (.int p1), .val (.int p2), .val (.int p3), .val (.int p4), .val (.int p5), .val (.int (0 : Int32)), .val (.int md), .val (.int ca), .val (.int d0), .val (.int d1), .val (.int d2), .val (.int y2), .val (.ref b1), .unset, .unset] []))
        refine OwnGo.fwd (fun tq' kq' => XS.iload X2.here hx rfl (hb hby at_134) rfl kq') ?_
        show OwnGo _ _ _ _ (T2.setTop (mkF m 136 #[.val (.int p0), .val (.int p1), .val (.int p2), .val (.int p3), .val (.int p4), .val (.int p5), .val (.int (0 : Int32)), .val (.int md), .val (.int ca), .val (.int d0), .val (.int d1), .val (.int d2), .val (.int y2), .val (.ref b1), .unset, .unset] [(.int d0)]))
        refine OwnGo.fwd (fun tq' kq' => XS.istore X2.here hx rfl (hb hby at_136) rfl (l' := #[.val (.int p0), .val (.int p1), .val (.int p2), .val (.int p3), .val (.int p4), .val (.int p5), .val (.int (0 : Int32)), .val (.int md), .val (.int ca), .val (.int d0), .val (.int d1), .val (.int d2), .val (.int y2), .val (.ref b1), .val (.int d0), .unset]) rfl kq') ?_
        show OwnGo _ _ _ _ (T2.setTop (mkF m 138 #[.val (.int p0), .val (.int p1), .val (.int p2), .val (.int p3), .val (.int p4), .val (.int p5), .val (.int (0 : Int32)), .val (.int md), .val (.int ca), .val (.int d0), .val (.int d1), .val (.int d2), .val (.int y2), .val (.ref b1), .val (.int d0), .unset] []))
        refine OwnGo.fwd (fun tq' kq' => XS.goto X2.here hx rfl (pc0 := 138) (pc' := 216) rfl (hb hby at_138) (by decide) (by decide) kq') ?_
        show OwnGo _ _ _ _ (T2.setTop (mkF m 216 #[.val (.int p0), .val (.int p1), .val (.int p2), .val (.int p3), .val (.int p4), .val (.int p5), .val (.int (0 : Int32)), .val (.int md), .val (.int ca), .val (.int d0), .val (.int d1), .val (.int d2), .val (.int y2), .val (.ref b1), .val (.int d0), .unset] []))
        exact J216 _
      · refine OwnGo.fwd (fun tq' kq' => XS.ifYes X2.here hx rfl (pc0 := 131) (pc' := 141) rfl (hb hby at_131) rfl ((if0 _ _).trans (own_bneq rfl (by decide) hc131_11).2) (by decide) (by decide) kq') ?_
        show OwnGo _ _ _ _ (T2.setTop (mkF m 141 #[.val (.int p0), .val (.int p1), .val (.int p2), .val (.int p3), .val (.int p4), .val (.int p5), .val (.int (0 : Int32)), .val (.int md), .val (.int ca), .val (.int d0), .val (.int d1), .val (.int d2), .val (.int y2), .val (.ref b1), .unset, .unset] []))
        refine OwnGo.fwd (fun tq' kq' => XS.iload X2.here hx rfl (hb hby at_141) rfl kq') ?_
        show OwnGo _ _ _ _ (T2.setTop (mkF m 143 #[.val (.int p0), .val (.int p1), .val (.int p2), .val (.int p3), .val (.int p4), .val (.int p5), .val (.int (0 : Int32)), .val (.int md), .val (.int ca), .val (.int d0), .val (.int d1), .val (.int d2), .val (.int y2), .val (.ref b1), .unset, .unset] [(.int md)]))
        refine OwnGo.fwd (fun tq' kq' => XS.iconst X2.here hx rfl (hb hby at_143) kq') ?_
        show OwnGo _ _ _ _ (T2.setTop (mkF m 144 #[.val (.int p0), .val (.int p1), .val (.int p2), .val (.int p3), .val (.int p4), .val (.int p5), .val (.int (0 : Int32)), .val (.int md), .val (.int ca), .val (.int d0), .val (.int d1), .val (.int d2), .val (.int y2), .val (.ref b1), .unset, .unset] [(.int (1 : Int32)), (.int md)]))
        by_cases hc144_12 : md.toInt = 1
        · refine OwnGo.fwd (fun tq' kq' => XS.icmpNo X2.here hx rfl (hb hby at_144) rfl (own_beq rfl (by decide) hc144_12).2 kq') ?_
          show OwnGo _ _ _ _ (T2.setTop (mkF m 147 #[.val (.int p0), .val (.int p1), .val (.int p2), .val (.int p3), .val (.int p4), .val (.int p5), .val (.int (0 : Int32)), .val (.int md), .val (.int ca), .val (.int d0), .val (.int d1), .val (.int d2), .val (.int y2), .val (.ref b1), .unset, .unset] []))
          refine OwnGo.fwd (fun tq' kq' => XS.iload X2.here hx rfl (hb hby at_147) rfl kq') ?_
          show OwnGo _ _ _ _ (T2.setTop (mkF m 149 #[.val (.int p0), .val (.int p1), .val (.int p2), .val (.int p3), .val (.int p4), .val (.int p5), .val (.int (0 : Int32)), .val (.int md), .val (.int ca), .val (.int d0), .val (.int d1), .val (.int d2), .val (.int y2), .val (.ref b1), .unset, .unset] [(.int d1)]))
          refine OwnGo.fwd (fun tq' kq' => XS.istore X2.here hx rfl (hb hby at_149) rfl (l' := #[.val (.int p0), .val (.int p1), .val (.int p2), .val (.int p3), .val (.int p4), .val (.int p5), .val (.int (0 : Int32)), .val (.int md), .val (.int ca), .val (.int d0), .val (.int d1), .val (.int d2), .val (.int y2), .val (.ref b1), .val (.int d1), .unset]) rfl kq') ?_
          show OwnGo _ _ _ _ (T2.setTop (mkF m 151 #[.val (.int p0), .val (.int p1), .val (.int p2), .val (.int p3), .val (.int p4), .val (.int p5), .val (.int (0 : Int32)), .val (.int md), .val (.int ca), .val (.int d0), .val (.int d1), .val (.int d2), .val (.int y2), .val (.ref b1), .val (.int d1), .unset] []))
          refine OwnGo.fwd (fun tq' kq' => XS.goto X2.here hx rfl (pc0 := 151) (pc' := 216) rfl (hb hby at_151) (by decide) (by decide) kq') ?_
          show OwnGo _ _ _ _ (T2.setTop (mkF m 216 #[.val (.int p0), .val (.int p1), .val (.int p2), .val (.int p3), .val (.int p4), .val (.int p5), .val (.int (0 : Int32)), .val (.int md), .val (.int ca), .val (.int d0), .val (.int d1), .val (.int d2), .val (.int y2), .val (.ref b1), .val (.int d1), .unset] []))
          exact J216 _
        · refine OwnGo.fwd (fun tq' kq' => XS.icmpYes X2.here hx rfl (pc0 := 144) (pc' := 154) rfl (hb hby at_144) rfl (own_bneq rfl (by decide) hc144_12).2 (by decide) (by decide) kq') ?_
          show OwnGo _ _ _ _ (T2.setTop (mkF m 154 #[.val (.int p0), .val (.int p1), .val (.int p2), .val (.int p3), .val (.int p4), .val (.int p5), .val (.int (0 : Int32)), .val (.int md), .val (.int ca), .val (.int d0), .val (.int d1), .val (.int d2), .val (.int y2), .val (.ref b1), .unset, .unset] []))
          refine OwnGo.fwd (fun tq' kq' => XS.iload X2.here hx rfl (hb hby at_154) rfl kq') ?_
          show OwnGo _ _ _ _ (T2.setTop (mkF m 156 #[.val (.int p0), .val (.int p1), .val (.int p2), .val (.int p3), .val (.int p4), .val (.int p5), .val (.int (0 : Int32)), .val (.int md), .val (.int ca), .val (.int d0), .val (.int d1), .val (.int d2), .val (.int y2), .val (.ref b1), .unset, .unset] [(.int md)]))
          refine OwnGo.fwd (fun tq' kq' => XS.iconst X2.here hx rfl (hb hby at_156) kq') ?_
          show OwnGo _ _ _ _ (T2.setTop (mkF m 157 #[.val (.int p0), .val (.int p1), .val (.int p2), .val (.int p3), .val (.int p4), .val (.int p5), .val (.int (0 : Int32)), .val (.int md), .val (.int ca), .val (.int d0), .val (.int d1), .val (.int d2), .val (.int y2), .val (.ref b1), .unset, .unset] [(.int (2 : Int32)), (.int md)]))
          by_cases hc157_13 : md.toInt = 2
          · refine OwnGo.fwd (fun tq' kq' => XS.icmpNo X2.here hx rfl (hb hby at_157) rfl (own_beq rfl (by decide) hc157_13).2 kq') ?_
            show OwnGo _ _ _ _ (T2.setTop (mkF m 160 #[.val (.int p0), .val (.int p1), .val (.int p2), .val (.int p3), .val (.int p4), .val (.int p5), .val (.int (0 : Int32)), .val (.int md), .val (.int ca), .val (.int d0), .val (.int d1), .val (.int d2), .val (.int y2), .val (.ref b1), .unset, .unset] []))
            refine OwnGo.fwd (fun tq' kq' => XS.iload X2.here hx rfl (hb hby at_160) rfl kq') ?_
            show OwnGo _ _ _ _ (T2.setTop (mkF m 162 #[.val (.int p0), .val (.int p1), .val (.int p2), .val (.int p3), .val (.int p4), .val (.int p5), .val (.int (0 : Int32)), .val (.int md), .val (.int ca), .val (.int d0), .val (.int d1), .val (.int d2), .val (.int y2), .val (.ref b1), .unset, .unset] [(.int d2)]))
            refine OwnGo.fwd (fun tq' kq' => XS.istore X2.here hx rfl (hb hby at_162) rfl (l' := #[.val (.int p0), .val (.int p1), .val (.int p2), .val (.int p3), .val (.int p4), .val (.int p5), .val (.int (0 : Int32)), .val (.int md), .val (.int ca), .val (.int d0), .val (.int d1), .val (.int d2), .val (.int y2), .val (.ref b1), .val (.int d2), .unset]) rfl kq') ?_
            show OwnGo _ _ _ _ (T2.setTop (mkF m 164 #[.val (.int p0), .val (.int p1), .val (.int p2), .val (.int p3), .val (.int p4), .val (.int p5), .val (.int (0 : Int32)), .val (.int md), .val (.int ca), .val (.int d0), .val (.int d1), .val (.int d2), .val (.int y2), .val (.ref b1), .val (.int d2), .unset] []))
            refine OwnGo.fwd (fun tq' kq' => XS.goto X2.here hx rfl (pc0 := 164) (pc' := 216) rfl (hb hby at_164) (by decide) (by decide) kq') ?_
            show OwnGo _ _ _ _ (T2.setTop (mkF m 216 #[.val (.int p0), .val (.int p1), .val (.int p2), .val (.int p3), .val (.int p4), .val (.int p5), .val (.int (0 : Int32)), .val (.int md), .val (.int ca), .val (.int d0), .val (.int d1), .val (.int d2), .val (.int y2), .val (.ref b1), .val (.int d2), .unset] []))
            exact J216 _
          · refine OwnGo.fwd (fun tq' kq' => XS.icmpYes X2.here hx rfl (pc0 := 157) (pc' := 167) rfl (hb hby at_157) rfl (own_bneq rfl (by decide) hc157_13).2 (by decide) (by decide) kq') ?_
            show OwnGo _ _ _ _ (T2.setTop (mkF m 167 #[.val (.int p0), .val (.int p1), .val (.int p2), .val (.int p3), .val (.int p4), .val (.int p5), .val (.int (0 : Int32)), .val (.int md), .val (.int ca), .val (.int d0), .val (.int d1), .val (.int d2), .val (.int y2), .val (.ref b1), .unset, .unset] []))
            refine OwnGo.fwd (fun tq' kq' => XS.iload X2.here hx rfl (hb hby at_167) rfl kq') ?_
            show OwnGo _ _ _ _ (T2.setTop (mkF m 169 #[.val (.int p0), .val (.int p1), .val (.int p2), .val (.int p3), .val (.int p4), .val (.int p5), .val (.int (0 : Int32)), .val (.int md), .val (.int ca), .val (.int d0), .val (.int d1), .val (.int d2), .val (.int y2), .val (.ref b1), .unset, .unset] [(.int md)]))
            refine OwnGo.fwd (fun tq' kq' => XS.iconst X2.here hx rfl (hb hby at_169) kq') ?_
            show OwnGo _ _ _ _ (T2.setTop (mkF m 170 #[.val (.int p0), .val (.int p1), .val (.int p2), .val (.int p3), .val (.int p4), .val (.int p5), .val (.int (0 : Int32)), .val (.int md), .val (.int ca), .val (.int d0), .val (.int d1), .val (.int d2), .val (.int y2), .val (.ref b1), .unset, .unset] [(.int (3 : Int32)), (.int md)]))
            by_cases hc170_14 : md.toInt = 3
            · refine OwnGo.fwd (fun tq' kq' => XS.icmpNo X2.here hx rfl (hb hby at_170) rfl (own_beq rfl (by decide) hc170_14).2 kq') ?_
              show OwnGo _ _ _ _ (T2.setTop (mkF m 173 #[.val (.int p0), .val (.int p1), .val (.int p2), .val (.int p3), .val (.int p4), .val (.int p5), .val (.int (0 : Int32)), .val (.int md), .val (.int ca), .val (.int d0), .val (.int d1), .val (.int d2), .val (.int y2), .val (.ref b1), .unset, .unset] []))
              refine OwnGo.fwd (fun tq' kq' => XS.iload X2.here hx rfl (hb hby at_173) rfl kq') ?_
              show OwnGo _ _ _ _ (T2.setTop (mkF m 175 #[.val (.int p0), .val (.int p1), .val (.int p2), .val (.int p3), .val (.int p4), .val (.int p5), .val (.int (0 : Int32)), .val (.int md), .val (.int ca), .val (.int d0), .val (.int d1), .val (.int d2), .val (.int y2), .val (.ref b1), .unset, .unset] [(.int d0)]))
              refine OwnGo.fwd (fun tq' kq' => XS.iconst X2.here hx rfl (hb hby at_175) kq') ?_
              show OwnGo _ _ _ _ (T2.setTop (mkF m 176 #[.val (.int p0), .val (.int p1), .val (.int p2), .val (.int p3), .val (.int p4), .val (.int p5), .val (.int (0 : Int32)), .val (.int md), .val (.int ca), .val (.int d0), .val (.int d1), .val (.int d2), .val (.int y2), .val (.ref b1), .unset, .unset] [(.int (1 : Int32)), (.int d0)]))
              refine OwnGo.fwd (fun tq' kq' => XS.isub X2.here hx rfl (hb hby at_176) rfl kq') ?_
              show OwnGo _ _ _ _ (T2.setTop (mkF m 177 #[.val (.int p0), .val (.int p1), .val (.int p2), .val (.int p3), .val (.int p4), .val (.int p5), .val (.int (0 : Int32)), .val (.int md), .val (.int ca), .val (.int d0), .val (.int d1), .val (.int d2), .val (.int y2), .val (.ref b1), .unset, .unset] [(.int (d0 - (1 : Int32)))]))
              refine OwnGo.fwd (fun tq' kq' => XS.istore X2.here hx rfl (hb hby at_177) rfl (l' := #[.val (.int p0), .val (.int p1), .val (.int p2), .val (.int p3), .val (.int p4), .val (.int p5), .val (.int (0 : Int32)), .val (.int md), .val (.int ca), .val (.int d0), .val (.int d1), .val (.int d2), .val (.int y2), .val (.ref b1), .val (.int (d0 - (1 : Int32))), .unset]) rfl kq') ?_
              show OwnGo _ _ _ _ (T2.setTop (mkF m 179 #[.val (.int p0), .val (.int p1), .val (.int p2), .val (.int p3), .val (.int p4), .val (.int p5), .val (.int (0 : Int32)), .val (.int md), .val (.int ca), .val (.int d0), .val (.int d1), .val (.int d2), .val (.int y2), .val (.ref b1), .val (.int (d0 - (1 : Int32))), .unset] []))
              refine OwnGo.fwd (fun tq' kq' => XS.goto X2.here hx rfl (pc0 := 179) (pc' := 216) rfl (hb hby at_179) (by decide) (by decide) kq') ?_
              show OwnGo _ _ _ _ (T2.setTop (mkF m 216 #[.val (.int p0), .val (.int p1), .val (.int p2), .val (.int p3), .val (.int p4), .val (.int p5), .val (.int (0 : Int32)), .val (.int md), .val (.int ca), .val (.int d0), .val (.int d1), .val (.int d2), .val (.int y2), .val (.ref b1), .val (.int (d0 - (1 : Int32))), .unset] []))
              exact J216 _
            · refine OwnGo.fwd (fun tq' kq' => XS.icmpYes X2.here hx rfl (pc0 := 170) (pc' := 182) rfl (hb hby at_170) rfl (own_bneq rfl (by decide) hc170_14).2 (by decide) (by decide) kq') ?_
              show OwnGo _ _ _ _ (T2.setTop (mkF m 182 #[.val (.int p0), .val (.int p1), .val (.int p2), .val (.int p3), .val (.int p4), .val (.int p5), .val (.int (0 : Int32)), .val (.int md), .val (.int ca), .val (.int d0), .val (.int d1), .val (.int d2), .val (.int y2), .val (.ref b1), .unset, .unset] []))
              refine OwnGo.fwd (fun tq' kq' => XS.iload X2.here hx rfl (hb hby at_182) rfl kq') ?_
              show OwnGo _ _ _ _ (T2.setTop (mkF m 184 #[.val (.int p0), .val (.int p1), .val (.int p2), .val (.int p3), .val (.int p4), .val (.int p5), .val (.int (0 : Int32)), .val (.int md), .val (.int ca), .val (.int d0), .val (.int d1), .val (.int d2), .val (.int y2), .val (.ref b1), .unset, .unset] [(.int md)]))
              refine OwnGo.fwd (fun tq' kq' => XS.iconst X2.here hx rfl (hb hby at_184) kq') ?_
              show OwnGo _ _ _ _ (T2.setTop (mkF m 185 #[.val (.int p0), .val (.int p1), .val (.int p2), .val (.int p3), .val (.int p4), .val (.int p5), .val (.int (0 : Int32)), .val (.int md), .val (.int ca), .val (.int d0), .val (.int d1), .val (.int d2), .val (.int y2), .val (.ref b1), .unset, .unset] [(.int (4 : Int32)), (.int md)]))
              by_cases hc185_15 : md.toInt = 4
              · refine OwnGo.fwd (fun tq' kq' => XS.icmpNo X2.here hx rfl (hb hby at_185) rfl (own_beq rfl (by decide) hc185_15).2 kq') ?_
                show OwnGo _ _ _ _ (T2.setTop (mkF m 188 #[.val (.int p0), .val (.int p1), .val (.int p2), .val (.int p3), .val (.int p4), .val (.int p5), .val (.int (0 : Int32)), .val (.int md), .val (.int ca), .val (.int d0), .val (.int d1), .val (.int d2), .val (.int y2), .val (.ref b1), .unset, .unset] []))
                refine OwnGo.fwd (fun tq' kq' => XS.iload X2.here hx rfl (hb hby at_188) rfl kq') ?_
                show OwnGo _ _ _ _ (T2.setTop (mkF m 190 #[.val (.int p0), .val (.int p1), .val (.int p2), .val (.int p3), .val (.int p4), .val (.int p5), .val (.int (0 : Int32)), .val (.int md), .val (.int ca), .val (.int d0), .val (.int d1), .val (.int d2), .val (.int y2), .val (.ref b1), .unset, .unset] [(.int d1)]))
                refine OwnGo.fwd (fun tq' kq' => XS.iconst X2.here hx rfl (hb hby at_190) kq') ?_
                show OwnGo _ _ _ _ (T2.setTop (mkF m 191 #[.val (.int p0), .val (.int p1), .val (.int p2), .val (.int p3), .val (.int p4), .val (.int p5), .val (.int (0 : Int32)), .val (.int md), .val (.int ca), .val (.int d0), .val (.int d1), .val (.int d2), .val (.int y2), .val (.ref b1), .unset, .unset] [(.int (1 : Int32)), (.int d1)]))
                refine OwnGo.fwd (fun tq' kq' => XS.isub X2.here hx rfl (hb hby at_191) rfl kq') ?_
                show OwnGo _ _ _ _ (T2.setTop (mkF m 192 #[.val (.int p0), .val (.int p1), .val (.int p2), .val (.int p3), .val (.int p4), .val (.int p5), .val (.int (0 : Int32)), .val (.int md), .val (.int ca), .val (.int d0), .val (.int d1), .val (.int d2), .val (.int y2), .val (.ref b1), .unset, .unset] [(.int (d1 - (1 : Int32)))]))
                refine OwnGo.fwd (fun tq' kq' => XS.istore X2.here hx rfl (hb hby at_192) rfl (l' := #[.val (.int p0), .val (.int p1), .val (.int p2), .val (.int p3), .val (.int p4), .val (.int p5), .val (.int (0 : Int32)), .val (.int md), .val (.int ca), .val (.int d0), .val (.int d1), .val (.int d2), .val (.int y2), .val (.ref b1), .val (.int (d1 - (1 : Int32))), .unset]) rfl kq') ?_
                show OwnGo _ _ _ _ (T2.setTop (mkF m 194 #[.val (.int p0), .val (.int p1), .val (.int p2), .val (.int p3), .val (.int p4), .val (.int p5), .val (.int (0 : Int32)), .val (.int md), .val (.int ca), .val (.int d0), .val (.int d1), .val (.int d2), .val (.int y2), .val (.ref b1), .val (.int (d1 - (1 : Int32))), .unset] []))
                refine OwnGo.fwd (fun tq' kq' => XS.goto X2.here hx rfl (pc0 := 194) (pc' := 216) rfl (hb hby at_194) (by decide) (by decide) kq') ?_
                show OwnGo _ _ _ _ (T2.setTop (mkF m 216 #[.val (.int p0), .val (.int p1), .val (.int p2), .val (.int p3), .val (.int p4), .val (.int p5), .val (.int (0 : Int32)), .val (.int md), .val (.int ca), .val (.int d0), .val (.int d1), .val (.int d2), .val (.int y2), .val (.ref b1), .val (.int (d1 - (1 : Int32))), .unset] []))
                exact J216 _
              · refine OwnGo.fwd (fun tq' kq' => XS.icmpYes X2.here hx rfl (pc0 := 185) (pc' := 197) rfl (hb hby at_185) rfl (own_bneq rfl (by decide) hc185_15).2 (by decide) (by decide) kq') ?_
                show OwnGo _ _ _ _ (T2.setTop (mkF m 197 #[.val (.int p0), .val (.int p1), .val (.int p2), .val (.int p3), .val (.int p4), .val (.int p5), .val (.int (0 : Int32)), .val (.int md), .val (.int ca), .val (.int d0), .val (.int d1), .val (.int d2), .val (.int y2), .val (.ref b1), .unset, .unset] []))
                refine OwnGo.fwd (fun tq' kq' => XS.iload X2.here hx rfl (hb hby at_197) rfl kq') ?_
                show OwnGo _ _ _ _ (T2.setTop (mkF m 199 #[.val (.int p0), .val (.int p1), .val (.int p2), .val (.int p3), .val (.int p4), .val (.int p5), .val (.int (0 : Int32)), .val (.int md), .val (.int ca), .val (.int d0), .val (.int d1), .val (.int d2), .val (.int y2), .val (.ref b1), .unset, .unset] [(.int md)]))
                refine OwnGo.fwd (fun tq' kq' => XS.iconst X2.here hx rfl (hb hby at_199) kq') ?_
                show OwnGo _ _ _ _ (T2.setTop (mkF m 200 #[.val (.int p0), .val (.int p1), .val (.int p2), .val (.int p3), .val (.int p4), .val (.int p5), .val (.int (0 : Int32)), .val (.int md), .val (.int ca), .val (.int d0), .val (.int d1), .val (.int d2), .val (.int y2), .val (.ref b1), .unset, .unset] [(.int (5 : Int32)), (.int md)]))
                by_cases hc200_16 : md.toInt = 5
                · refine OwnGo.fwd (fun tq' kq' => XS.icmpNo X2.here hx rfl (hb hby at_200) rfl (own_beq rfl (by decide) hc200_16).2 kq') ?_
                  show OwnGo _ _ _ _ (T2.setTop (mkF m 203 #[.val (.int p0), .val (.int p1), .val (.int p2), .val (.int p3), .val (.int p4), .val (.int p5), .val (.int (0 : Int32)), .val (.int md), .val (.int ca), .val (.int d0), .val (.int d1), .val (.int d2), .val (.int y2), .val (.ref b1), .unset, .unset] []))
                  refine OwnGo.fwd (fun tq' kq' => XS.iload X2.here hx rfl (hb hby at_203) rfl kq') ?_
                  show OwnGo _ _ _ _ (T2.setTop (mkF m 205 #[.val (.int p0), .val (.int p1), .val (.int p2), .val (.int p3), .val (.int p4), .val (.int p5), .val (.int (0 : Int32)), .val (.int md), .val (.int ca), .val (.int d0), .val (.int d1), .val (.int d2), .val (.int y2), .val (.ref b1), .unset, .unset] [(.int d2)]))
                  refine OwnGo.fwd (fun tq' kq' => XS.iconst X2.here hx rfl (hb hby at_205) kq') ?_
                  show OwnGo _ _ _ _ (T2.setTop (mkF m 206 #[.val (.int p0), .val (.int p1), .val (.int p2), .val (.int p3), .val (.int p4), .val (.int p5), .val (.int (0 : Int32)), .val (.int md), .val (.int ca), .val (.int d0), .val (.int d1), .val (.int d2), .val (.int y2), .val (.ref b1), .unset, .unset] [(.int (1 : Int32)), (.int d2)]))
                  refine OwnGo.fwd (fun tq' kq' => XS.iadd X2.here hx rfl (hb hby at_206) rfl kq') ?_
                  show OwnGo _ _ _ _ (T2.setTop (mkF m 207 #[.val (.int p0), .val (.int p1), .val (.int p2), .val (.int p3), .val (.int p4), .val (.int p5), .val (.int (0 : Int32)), .val (.int md), .val (.int ca), .val (.int d0), .val (.int d1), .val (.int d2), .val (.int y2), .val (.ref b1), .unset, .unset] [(.int (d2 + (1 : Int32)))]))
                  refine OwnGo.fwd (fun tq' kq' => XS.istore X2.here hx rfl (hb hby at_207) rfl (l' := #[.val (.int p0), .val (.int p1), .val (.int p2), .val (.int p3), .val (.int p4), .val (.int p5), .val (.int (0 : Int32)), .val (.int md), .val (.int ca), .val (.int d0), .val (.int d1), .val (.int d2), .val (.int y2), .val (.ref b1), .val (.int (d2 + (1 : Int32))), .unset]) rfl kq') ?_
                  show OwnGo _ _ _ _ (T2.setTop (mkF m 209 #[.val (.int p0), .val (.int p1), .val (.int p2), .val (.int p3), .val (.int p4), .val (.int p5), .val (.int (0 : Int32)), .val (.int md), .val (.int ca), .val (.int d0), .val (.int d1), .val (.int d2), .val (.int y2), .val (.ref b1), .val (.int (d2 + (1 : Int32))), .unset] []))
                  refine OwnGo.fwd (fun tq' kq' => XS.goto X2.here hx rfl (pc0 := 209) (pc' := 216) rfl (hb hby at_209) (by decide) (by decide) kq') ?_
                  show OwnGo _ _ _ _ (T2.setTop (mkF m 216 #[.val (.int p0), .val (.int p1), .val (.int p2), .val (.int p3), .val (.int p4), .val (.int p5), .val (.int (0 : Int32)), .val (.int md), .val (.int ca), .val (.int d0), .val (.int d1), .val (.int d2), .val (.int y2), .val (.ref b1), .val (.int (d2 + (1 : Int32))), .unset] []))
                  exact J216 _
                · refine OwnGo.fwd (fun tq' kq' => XS.icmpYes X2.here hx rfl (pc0 := 200) (pc' := 212) rfl (hb hby at_200) rfl (own_bneq rfl (by decide) hc200_16).2 (by decide) (by decide) kq') ?_
                  show OwnGo _ _ _ _ (T2.setTop (mkF m 212 #[.val (.int p0), .val (.int p1), .val (.int p2), .val (.int p3), .val (.int p4), .val (.int p5), .val (.int (0 : Int32)), .val (.int md), .val (.int ca), .val (.int d0), .val (.int d1), .val (.int d2), .val (.int y2), .val (.ref b1), .unset, .unset] []))
                  refine OwnGo.fwd (fun tq' kq' => XS.iload X2.here hx rfl (hb hby at_212) rfl kq') ?_
                  show OwnGo _ _ _ _ (T2.setTop (mkF m 214 #[.val (.int p0), .val (.int p1), .val (.int p2), .val (.int p3), .val (.int p4), .val (.int p5), .val (.int (0 : Int32)), .val (.int md), .val (.int ca), .val (.int d0), .val (.int d1), .val (.int d2), .val (.int y2), .val (.ref b1), .unset, .unset] [(.int p5)]))
                  refine OwnGo.fwd (fun tq' kq' => XS.istore X2.here hx rfl (hb hby at_214) rfl (l' := #[.val (.int p0), .val (.int p1), .val (.int p2), .val (.int p3), .val (.int p4), .val (.int p5), .val (.int (0 : Int32)), .val (.int md), .val (.int ca), .val (.int d0), .val (.int d1), .val (.int d2), .val (.int y2), .val (.ref b1), .val (.int p5), .unset]) rfl kq') ?_
                  show OwnGo _ _ _ _ (T2.setTop (mkF m 216 #[.val (.int p0), .val (.int p1), .val (.int p2), .val (.int p3), .val (.int p4), .val (.int p5), .val (.int (0 : Int32)), .val (.int md), .val (.int ca), .val (.int d0), .val (.int d1), .val (.int d2), .val (.int y2), .val (.ref b1), .val (.int p5), .unset] []))
                  exact J216 _
    · show OwnGo _ _ _ _ (T2.setTop (mkF m 86 #[.val (.int p0), .val (.int p1), .val (.int p2), .val (.int p3), .val (.int p4), .val (.int p5), .val (.int (1 : Int32)), .val (.int md), .val (.int ca), .val (.int d0), .val (.int d1), .val (.int d2), .val (.int y2), .val (.ref b1), .unset, .unset] []))
      refine OwnGo.fwd (fun tq' kq' => XS.iload X2.here hx rfl (hb hby at_86) rfl kq') ?_
      show OwnGo _ _ _ _ (T2.setTop (mkF m 88 #[.val (.int p0), .val (.int p1), .val (.int p2), .val (.int p3), .val (.int p4), .val (.int p5), .val (.int (1 : Int32)), .val (.int md), .val (.int ca), .val (.int d0), .val (.int d1), .val (.int d2), .val (.int y2), .val (.ref b1), .unset, .unset] [(.int (1 : Int32))]))
      have hc88_17 : (0 : Int) < (1 : Int) := by decide
      refine OwnGo.fwd (fun tq' kq' => XS.ifNo X2.here hx rfl (hb hby at_88) rfl ((if0 _ _).trans (own_blt (by decide) (by decide) hc88_17).2.2.2) kq') ?_
      show OwnGo _ _ _ _ (T2.setTop (mkF m 91 #[.val (.int p0), .val (.int p1), .val (.int p2), .val (.int p3), .val (.int p4), .val (.int p5), .val (.int (1 : Int32)), .val (.int md), .val (.int ca), .val (.int d0), .val (.int d1), .val (.int d2), .val (.int y2), .val (.ref b1), .unset, .unset] []))
      refine OwnGo.fwd (fun tq' kq' => XS.aload X2.here hx rfl (hb hby at_91) rfl rfl kq') ?_
      show OwnGo _ _ _ _ (T2.setTop (mkF m 93 #[.val (.int p0), .val (.int p1), .val (.int p2), .val (.int p3), .val (.int p4), .val (.int p5), .val (.int (1 : Int32)), .val (.int md), .val (.int ca), .val (.int d0), .val (.int d1), .val (.int d2), .val (.int y2), .val (.ref b1), .unset, .unset] [(.ref b1)]))
      refine OwnGo.fwd (fun tq' kq' => XS.iload X2.here hx rfl (hb hby at_93) rfl kq') ?_
      show OwnGo _ _ _ _ (T2.setTop (mkF m 95 #[.val (.int p0), .val (.int p1), .val (.int p2), .val (.int p3), .val (.int p4), .val (.int p5), .val (.int (1 : Int32)), .val (.int md), .val (.int ca), .val (.int d0), .val (.int d1), .val (.int d2), .val (.int y2), .val (.ref b1), .unset, .unset] [(.int d0), (.ref b1)]))
      refine OwnGo.fwd (fun tq' kq' => XS.iloadN X2.here hx rfl (hb hby at_95) rfl kq') ?_
      show OwnGo _ _ _ _ (T2.setTop (mkF m 96 #[.val (.int p0), .val (.int p1), .val (.int p2), .val (.int p3), .val (.int p4), .val (.int p5), .val (.int (1 : Int32)), .val (.int md), .val (.int ca), .val (.int d0), .val (.int d1), .val (.int d2), .val (.int y2), .val (.ref b1), .unset, .unset] [(.int p3), (.int d0), (.ref b1)]))
      obtain ⟨cq18, kq18, q18a, q18b, q18c⟩ := isOf hZ eh2.symm E_b1
      obtain ⟨_, _, ⟨T18, L18, k18, n18⟩, -, X18, ⟨Lc18, hQ18, l18, y18, z18⟩, st18⟩ := X2.virtualBack hx (y := (⟨"com/example/inverse_frequency/inversefrequency/Postings", "add", "(II)V"⟩ : MethodName)) (z := (⟨"com/example/inverse_frequency/inversefrequency/Postings", "add", "(II)V"⟩ : MethodName)) hown (mvT hZ (hw _ (List.mem_of_getElem? (i := 36) rfl))) (mvT hZ (hw _ (List.mem_of_getElem? (i := 37) rfl))) (notFace_of_selects (args := #[]) (mvT hZ (hw _ (List.mem_of_getElem? (i := 39) rfl)))) (mvT hZ (hw _ (List.mem_of_getElem? (i := 39) rfl))) (mvT hZ (hw _ (List.mem_of_getElem? (i := 38) rfl))) (by decide) (backOf (W := 0) (rm8 l Z a0 hw [] b1 da fa 0 (0 : Int64) cp (fun _ => 0) (fun _ => 0) d0 p3 h2 n0 Zs ⟨E_b1, F_documents_b1, F_frequencies_b1, F_size_b1, F_totalFrequency_b1, V_da, V_fa, ne_b1_da, ne_b1_fa, ne_da_fa, g_b1, g_da, g_fa⟩ (by decide) (Nat.zero_le _) hcp1) hZ (hw _ (List.mem_of_getElem? (i := 40) rfl)) (hw _ (List.mem_of_getElem? (i := 3) rfl)) (by decide) (by decide)) q18a q18c (g := (mkF m 96 #[.val (.int p0), .val (.int p1), .val (.int p2), .val (.int p3), .val (.int p4), .val (.int p5), .val (.int (1 : Int32)), .val (.int md), .val (.int ca), .val (.int d0), .val (.int d1), .val (.int d2), .val (.int y2), .val (.ref b1), .unset, .unset] [(.int p3), (.int d0), (.ref b1)])) rfl (by rw [hml]; rfl) (Steps.refl _) (argsL := [(.int d0), (.int p3)]) (rest := []) (lenOf pd_6 rfl) rfl (by show 2 * 0 + _ ≤ _; exact Nat.le_of_eq rfl) (hb hby at_96) (fun _ _ => ⟨rfl, eh2.symm, (by decide : 3 + 2 ≤ _), (by decide : 14 + 8 ≤ _)⟩)
      dsimp only [Pt.U, Pt.locs, Pt.cells, Pt.slots] at X18 l18 y18 z18 st18 hQ18
      subst l18 y18 z18
      obtain ⟨h18, eh18⟩ : ∃ z, z = T18.heap := ⟨_, rfl⟩
      rw [← eh18] at hQ18
      obtain ⟨rfl, N18q, K18, da1, fa1, cp1, f1, g1, hl1, ⟨E_b1, F_documents_b1, F_frequencies_b1, F_size_b1, F_totalFrequency_b1, V_da1, V_fa1, ne_b1_da1, ne_b1_fa1, ne_da1_fa1, g_b1, g_da1, g_fa1⟩, hf1, hfx1, hg1, hgx1⟩ := hQ18
      have N := Fr.app N N18q
      have Zs := Nat.le_trans Zs K18.1
      refine OwnGo.thru st18 ?_
      show OwnGo _ _ _ _ (T18.setTop (mkF m 99 #[.val (.int p0), .val (.int p1), .val (.int p2), .val (.int p3), .val (.int p4), .val (.int p5), .val (.int (1 : Int32)), .val (.int md), .val (.int ca), .val (.int d0), .val (.int d1), .val (.int d2), .val (.int y2), .val (.ref b1), .unset, .unset] []))
      refine OwnGo.fwd (fun tq' kq' => XS.iload X18.here hx rfl (hb hby at_99) rfl kq') ?_
      show OwnGo _ _ _ _ (T18.setTop (mkF m 101 #[.val (.int p0), .val (.int p1), .val (.int p2), .val (.int p3), .val (.int p4), .val (.int p5), .val (.int (1 : Int32)), .val (.int md), .val (.int ca), .val (.int d0), .val (.int d1), .val (.int d2), .val (.int y2), .val (.ref b1), .unset, .unset] [(.int (1 : Int32))]))
      refine OwnGo.fwd (fun tq' kq' => XS.iconst X18.here hx rfl (hb hby at_101) kq') ?_
      show OwnGo _ _ _ _ (T18.setTop (mkF m 102 #[.val (.int p0), .val (.int p1), .val (.int p2), .val (.int p3), .val (.int p4), .val (.int p5), .val (.int (1 : Int32)), .val (.int md), .val (.int ca), .val (.int d0), .val (.int d1), .val (.int d2), .val (.int y2), .val (.ref b1), .unset, .unset] [(.int (1 : Int32)), (.int (1 : Int32))]))
      have hc102_19 : ¬ ((1 : Int) < (1 : Int)) := by decide
      refine OwnGo.fwd (fun tq' kq' => XS.icmpYes X18.here hx rfl (pc0 := 102) (pc' := 114) rfl (hb hby at_102) rfl (own_bnlt (by decide) (by decide) hc102_19).2.2.2 (by decide) (by decide) kq') ?_
      show OwnGo _ _ _ _ (T18.setTop (mkF m 114 #[.val (.int p0), .val (.int p1), .val (.int p2), .val (.int p3), .val (.int p4), .val (.int p5), .val (.int (1 : Int32)), .val (.int md), .val (.int ca), .val (.int d0), .val (.int d1), .val (.int d2), .val (.int y2), .val (.ref b1), .unset, .unset] []))
      refine OwnGo.fwd (fun tq' kq' => XS.iload X18.here hx rfl (hb hby at_114) rfl kq') ?_
      show OwnGo _ _ _ _ (T18.setTop (mkF m 116 #[.val (.int p0), .val (.int p1), .val (.int p2), .val (.int p3), .val (.int p4), .val (.int p5), .val (.int (1 : Int32)), .val (.int md), .val (.int ca), .val (.int d0), .val (.int d1), .val (.int d2), .val (.int y2), .val (.ref b1), .unset, .unset] [(.int (1 : Int32))]))
      refine OwnGo.fwd (fun tq' kq' => XS.iconst X18.here hx rfl (hb hby at_116) kq') ?_
      show OwnGo _ _ _ _ (T18.setTop (mkF m 117 #[.val (.int p0), .val (.int p1), .val (.int p2), .val (.int p3), .val (.int p4), .val (.int p5), .val (.int (1 : Int32)), .val (.int md), .val (.int ca), .val (.int d0), .val (.int d1), .val (.int d2), .val (.int y2), .val (.ref b1), .unset, .unset] [(.int (2 : Int32)), (.int (1 : Int32))]))
      have hc117_20 : ¬ ((2 : Int) < (1 : Int)) := by decide
      refine OwnGo.fwd (fun tq' kq' => XS.icmpYes X18.here hx rfl (pc0 := 117) (pc' := 129) rfl (hb hby at_117) rfl (own_bnlt (by decide) (by decide) hc117_20).2.2.2 (by decide) (by decide) kq') ?_
      show OwnGo _ _ _ _ (T18.setTop (mkF m 129 #[.val (.int p0), .val (.int p1), .val (.int p2), .val (.int p3), .val (.int p4), .val (.int p5), .val (.int (1 : Int32)), .val (.int md), .val (.int ca), .val (.int d0), .val (.int d1), .val (.int d2), .val (.int y2), .val (.ref b1), .unset, .unset] []))
      have ef1_0 : f1 0 = d0 := by rw [hfx1]
      have eg1_0 : g1 0 = p3 := by rw [hgx1]
      have J216 : ∀ qq : Int32, OwnGo p.tables e below (OwnEnd s (Q0 Z p0 p1 p2 p3 p4 p5 h0 n0) room_1.cells room_1.slots) (T18.setTop (mkF m 216 #[.val (.int p0), .val (.int p1), .val (.int p2), .val (.int p3), .val (.int p4), .val (.int p5), .val (.int (1 : Int32)), .val (.int md), .val (.int ca), .val (.int d0), .val (.int d1), .val (.int d2), .val (.int y2), .val (.ref b1), .val (.int qq), .unset] [])) := by
        intro qq
        show OwnGo _ _ _ _ (T18.setTop (mkF m 216 #[.val (.int p0), .val (.int p1), .val (.int p2), .val (.int p3), .val (.int p4), .val (.int p5), .val (.int (1 : Int32)), .val (.int md), .val (.int ca), .val (.int d0), .val (.int d1), .val (.int d2), .val (.int y2), .val (.ref b1), .val (.int qq), .unset] []))
        refine OwnGo.fwd (fun tq' kq' => XS.iconst X18.here hx rfl (hb hby at_216) kq') ?_
        show OwnGo _ _ _ _ (T18.setTop (mkF m 217 #[.val (.int p0), .val (.int p1), .val (.int p2), .val (.int p3), .val (.int p4), .val (.int p5), .val (.int (1 : Int32)), .val (.int md), .val (.int ca), .val (.int d0), .val (.int d1), .val (.int d2), .val (.int y2), .val (.ref b1), .val (.int qq), .unset] [(.int (0 : Int32))]))
        refine OwnGo.fwd (fun tq' kq' => XS.istore X18.here hx rfl (hb hby at_217) rfl (l' := #[.val (.int p0), .val (.int p1), .val (.int p2), .val (.int p3), .val (.int p4), .val (.int p5), .val (.int (1 : Int32)), .val (.int md), .val (.int ca), .val (.int d0), .val (.int d1), .val (.int d2), .val (.int y2), .val (.ref b1), .val (.int qq), .val (.int (0 : Int32))]) rfl kq') ?_
        show OwnGo _ _ _ _ (T18.setTop (mkF m 219 #[.val (.int p0), .val (.int p1), .val (.int p2), .val (.int p3), .val (.int p4), .val (.int p5), .val (.int (1 : Int32)), .val (.int md), .val (.int ca), .val (.int d0), .val (.int d1), .val (.int d2), .val (.int y2), .val (.ref b1), .val (.int qq), .val (.int (0 : Int32))] []))
        refine OwnGo.fwd (fun tq' kq' => XS.iload X18.here hx rfl (hb hby at_219) rfl kq') ?_
        show OwnGo _ _ _ _ (T18.setTop (mkF m 221 #[.val (.int p0), .val (.int p1), .val (.int p2), .val (.int p3), .val (.int p4), .val (.int p5), .val (.int (1 : Int32)), .val (.int md), .val (.int ca), .val (.int d0), .val (.int d1), .val (.int d2), .val (.int y2), .val (.ref b1), .val (.int qq), .val (.int (0 : Int32))] [(.int (1 : Int32))]))
        have hc221_21 : (0 : Int) < (1 : Int) := by decide
        refine OwnGo.fwd (fun tq' kq' => XS.ifNo X18.here hx rfl (hb hby at_221) rfl ((if0 _ _).trans (own_blt (by decide) (by decide) hc221_21).2.2.2) kq') ?_
        show OwnGo _ _ _ _ (T18.setTop (mkF m 224 #[.val (.int p0), .val (.int p1), .val (.int p2), .val (.int p3), .val (.int p4), .val (.int p5), .val (.int (1 : Int32)), .val (.int md), .val (.int ca), .val (.int d0), .val (.int d1), .val (.int d2), .val (.int y2), .val (.ref b1), .val (.int qq), .val (.int (0 : Int32))] []))
        refine OwnGo.fwd (fun tq' kq' => XS.iload X18.here hx rfl (hb hby at_224) rfl kq') ?_
        show OwnGo _ _ _ _ (T18.setTop (mkF m 226 #[.val (.int p0), .val (.int p1), .val (.int p2), .val (.int p3), .val (.int p4), .val (.int p5), .val (.int (1 : Int32)), .val (.int md), .val (.int ca), .val (.int d0), .val (.int d1), .val (.int d2), .val (.int y2), .val (.ref b1), .val (.int qq), .val (.int (0 : Int32))] [(.int qq)]))
        refine OwnGo.fwd (fun tq' kq' => XS.iload X18.here hx rfl (hb hby at_226) rfl kq') ?_
        show OwnGo _ _ _ _ (T18.setTop (mkF m 228 #[.val (.int p0), .val (.int p1), .val (.int p2), .val (.int p3), .val (.int p4), .val (.int p5), .val (.int (1 : Int32)), .val (.int md), .val (.int ca), .val (.int d0), .val (.int d1), .val (.int d2), .val (.int y2), .val (.ref b1), .val (.int qq), .val (.int (0 : Int32))] [(.int d0), (.int qq)]))
        by_cases hc228_22 : qq.toInt = d0.toInt
        · refine OwnGo.fwd (fun tq' kq' => XS.icmpNo X18.here hx rfl (hb hby at_228) rfl (own_beq rfl rfl hc228_22).2 kq') ?_
          show OwnGo _ _ _ _ (T18.setTop (mkF m 231 #[.val (.int p0), .val (.int p1), .val (.int p2), .val (.int p3), .val (.int p4), .val (.int p5), .val (.int (1 : Int32)), .val (.int md), .val (.int ca), .val (.int d0), .val (.int d1), .val (.int d2), .val (.int y2), .val (.ref b1), .val (.int qq), .val (.int (0 : Int32))] []))
          refine OwnGo.fwd (fun tq' kq' => XS.iloadN X18.here hx rfl (hb hby at_231) rfl kq') ?_
          show OwnGo _ _ _ _ (T18.setTop (mkF m 232 #[.val (.int p0), .val (.int p1), .val (.int p2), .val (.int p3), .val (.int p4), .val (.int p5), .val (.int (1 : Int32)), .val (.int md), .val (.int ca), .val (.int d0), .val (.int d1), .val (.int d2), .val (.int y2), .val (.ref b1), .val (.int qq), .val (.int (0 : Int32))] [(.int p3)]))
          refine OwnGo.fwd (fun tq' kq' => XS.istore X18.here hx rfl (hb hby at_232) rfl (l' := #[.val (.int p0), .val (.int p1), .val (.int p2), .val (.int p3), .val (.int p4), .val (.int p5), .val (.int (1 : Int32)), .val (.int md), .val (.int ca), .val (.int d0), .val (.int d1), .val (.int d2), .val (.int y2), .val (.ref b1), .val (.int qq), .val (.int p3)]) rfl kq') ?_
          show OwnGo _ _ _ _ (T18.setTop (mkF m 234 #[.val (.int p0), .val (.int p1), .val (.int p2), .val (.int p3), .val (.int p4), .val (.int p5), .val (.int (1 : Int32)), .val (.int md), .val (.int ca), .val (.int d0), .val (.int d1), .val (.int d2), .val (.int y2), .val (.ref b1), .val (.int qq), .val (.int p3)] []))
          refine OwnGo.fwd (fun tq' kq' => XS.iload X18.here hx rfl (hb hby at_234) rfl kq') ?_
          show OwnGo _ _ _ _ (T18.setTop (mkF m 236 #[.val (.int p0), .val (.int p1), .val (.int p2), .val (.int p3), .val (.int p4), .val (.int p5), .val (.int (1 : Int32)), .val (.int md), .val (.int ca), .val (.int d0), .val (.int d1), .val (.int d2), .val (.int y2), .val (.ref b1), .val (.int qq), .val (.int p3)] [(.int (1 : Int32))]))
          refine OwnGo.fwd (fun tq' kq' => XS.iconst X18.here hx rfl (hb hby at_236) kq') ?_
          show OwnGo _ _ _ _ (T18.setTop (mkF m 237 #[.val (.int p0), .val (.int p1), .val (.int p2), .val (.int p3), .val (.int p4), .val (.int p5), .val (.int (1 : Int32)), .val (.int md), .val (.int ca), .val (.int d0), .val (.int d1), .val (.int d2), .val (.int y2), .val (.ref b1), .val (.int qq), .val (.int p3)] [(.int (1 : Int32)), (.int (1 : Int32))]))
          have hc237_23 : ¬ ((1 : Int) < (1 : Int)) := by decide
          refine OwnGo.fwd (fun tq' kq' => XS.icmpYes X18.here hx rfl (pc0 := 237) (pc' := 251) rfl (hb hby at_237) rfl (own_bnlt (by decide) (by decide) hc237_23).2.2.2 (by decide) (by decide) kq') ?_
          show OwnGo _ _ _ _ (T18.setTop (mkF m 251 #[.val (.int p0), .val (.int p1), .val (.int p2), .val (.int p3), .val (.int p4), .val (.int p5), .val (.int (1 : Int32)), .val (.int md), .val (.int ca), .val (.int d0), .val (.int d1), .val (.int d2), .val (.int y2), .val (.ref b1), .val (.int qq), .val (.int p3)] []))
          refine OwnGo.fwd (fun tq' kq' => XS.iload X18.here hx rfl (hb hby at_251) rfl kq') ?_
          show OwnGo _ _ _ _ (T18.setTop (mkF m 253 #[.val (.int p0), .val (.int p1), .val (.int p2), .val (.int p3), .val (.int p4), .val (.int p5), .val (.int (1 : Int32)), .val (.int md), .val (.int ca), .val (.int d0), .val (.int d1), .val (.int d2), .val (.int y2), .val (.ref b1), .val (.int qq), .val (.int p3)] [(.int (1 : Int32))]))
          refine OwnGo.fwd (fun tq' kq' => XS.iconst X18.here hx rfl (hb hby at_253) kq') ?_
          show OwnGo _ _ _ _ (T18.setTop (mkF m 254 #[.val (.int p0), .val (.int p1), .val (.int p2), .val (.int p3), .val (.int p4), .val (.int p5), .val (.int (1 : Int32)), .val (.int md), .val (.int ca), .val (.int d0), .val (.int d1), .val (.int d2), .val (.int y2), .val (.ref b1), .val (.int qq), .val (.int p3)] [(.int (2 : Int32)), (.int (1 : Int32))]))
          have hc254_24 : ¬ ((2 : Int) < (1 : Int)) := by decide
          refine OwnGo.fwd (fun tq' kq' => XS.icmpYes X18.here hx rfl (pc0 := 254) (pc' := 268) rfl (hb hby at_254) rfl (own_bnlt (by decide) (by decide) hc254_24).2.2.2 (by decide) (by decide) kq') ?_
          show OwnGo _ _ _ _ (T18.setTop (mkF m 268 #[.val (.int p0), .val (.int p1), .val (.int p2), .val (.int p3), .val (.int p4), .val (.int p5), .val (.int (1 : Int32)), .val (.int md), .val (.int ca), .val (.int d0), .val (.int d1), .val (.int d2), .val (.int y2), .val (.ref b1), .val (.int qq), .val (.int p3)] []))
          refine OwnGo.fwd (fun tq' kq' => XS.aload X18.here hx rfl (hb hby at_268) rfl rfl kq') ?_
          show OwnGo _ _ _ _ (T18.setTop (mkF m 270 #[.val (.int p0), .val (.int p1), .val (.int p2), .val (.int p3), .val (.int p4), .val (.int p5), .val (.int (1 : Int32)), .val (.int md), .val (.int ca), .val (.int d0), .val (.int d1), .val (.int d2), .val (.int y2), .val (.ref b1), .val (.int qq), .val (.int p3)] [(.ref b1)]))
          refine OwnGo.fwd (fun tq' kq' => XS.iload X18.here hx rfl (hb hby at_270) rfl kq') ?_
          show OwnGo _ _ _ _ (T18.setTop (mkF m 272 #[.val (.int p0), .val (.int p1), .val (.int p2), .val (.int p3), .val (.int p4), .val (.int p5), .val (.int (1 : Int32)), .val (.int md), .val (.int ca), .val (.int d0), .val (.int d1), .val (.int d2), .val (.int y2), .val (.ref b1), .val (.int qq), .val (.int p3)] [(.int qq), (.ref b1)]))
          obtain ⟨cq25, kq25, q25a, q25b, q25c⟩ := isOf hZ eh18.symm E_b1
          obtain ⟨_, _, ⟨T25, L25, k25, n25⟩, -, X25, ⟨Lc25, hQ25, l25, y25, z25⟩, st25⟩ := X18.virtualBack hx (y := (⟨"com/example/inverse_frequency/inversefrequency/Postings", "frequencyIn", "(I)I"⟩ : MethodName)) (z := (⟨"com/example/inverse_frequency/inversefrequency/Postings", "frequencyIn", "(I)I"⟩ : MethodName)) hown (mvT hZ (hw _ (List.mem_of_getElem? (i := 19) rfl))) (mvT hZ (hw _ (List.mem_of_getElem? (i := 20) rfl))) (notFace_of_selects (args := #[]) (mvT hZ (hw _ (List.mem_of_getElem? (i := 22) rfl)))) (mvT hZ (hw _ (List.mem_of_getElem? (i := 22) rfl))) (mvT hZ (hw _ (List.mem_of_getElem? (i := 21) rfl))) (by decide) (backOf (W := 0) (rm4n1 l Z a0 hw [] b1 da1 fa1 ((0 : Int64) + p3.toInt64) cp1 f1 g1 qq h18 n0 Zs ⟨E_b1, F_documents_b1, F_frequencies_b1, F_size_b1, F_totalFrequency_b1, V_da1, V_fa1, ne_b1_da1, ne_b1_fa1, ne_da1_fa1, g_b1, g_da1, g_fa1⟩ (by omega)) hZ (hw _ (List.mem_of_getElem? (i := 23) rfl)) (hw _ (List.mem_of_getElem? (i := 3) rfl)) (by decide) (by decide)) q25a q25c (g := (mkF m 272 #[.val (.int p0), .val (.int p1), .val (.int p2), .val (.int p3), .val (.int p4), .val (.int p5), .val (.int (1 : Int32)), .val (.int md), .val (.int ca), .val (.int d0), .val (.int d1), .val (.int d2), .val (.int y2), .val (.ref b1), .val (.int qq), .val (.int p3)] [(.int qq), (.ref b1)])) rfl (by rw [hml]; rfl) (Steps.refl _) (argsL := [(.int qq)]) (rest := []) (lenOf pd_3 rfl) rfl (by show 2 * 0 + _ ≤ _; exact Nat.le_of_eq rfl) (hb hby at_272) (fun _ _ => ⟨rfl, eh18.symm, (by decide : 5 + 0 ≤ _), (by decide : 22 + 0 ≤ _)⟩)
          dsimp only [Pt.U, Pt.locs, Pt.cells, Pt.slots] at X25 l25 y25 z25 st25 hQ25
          subst l25 y25 z25
          obtain ⟨N25q, e25, r25, rfl, hr25⟩ := hQ25
          have N := Fr.app N N25q
          refine OwnGo.thru st25 ?_
          show OwnGo _ _ _ _ (T25.setTop (mkF m 275 #[.val (.int p0), .val (.int p1), .val (.int p2), .val (.int p3), .val (.int p4), .val (.int p5), .val (.int (1 : Int32)), .val (.int md), .val (.int ca), .val (.int d0), .val (.int d1), .val (.int d2), .val (.int y2), .val (.ref b1), .val (.int qq), .val (.int p3)] [(.int r25)]))
          refine OwnGo.fwd (fun tq' kq' => XS.iload X25.here hx rfl (hb hby at_275) rfl kq') ?_
          show OwnGo _ _ _ _ (T25.setTop (mkF m 277 #[.val (.int p0), .val (.int p1), .val (.int p2), .val (.int p3), .val (.int p4), .val (.int p5), .val (.int (1 : Int32)), .val (.int md), .val (.int ca), .val (.int d0), .val (.int d1), .val (.int d2), .val (.int y2), .val (.ref b1), .val (.int qq), .val (.int p3)] [(.int p3), (.int r25)]))
          have hc277_26 : r25.toInt = p3.toInt := by
              rcases hr25 with ⟨i, hi, e, hr⟩ | ⟨hall, hr⟩
              · have : i = 0 := by omega
                rcases this with rfl
                · rw [ef1_0] at e; rw [hr, eg1_0] <;> first | rfl | omega
              · have h0a := hall 0 (by decide); rw [ef1_0] at h0a; rw [hr] <;> first | rfl | omega
          refine OwnGo.fwd (fun tq' kq' => XS.icmpNo X25.here hx rfl (hb hby at_277) rfl (own_beq rfl rfl hc277_26).2 kq') ?_
          show OwnGo _ _ _ _ (T25.setTop (mkF m 280 #[.val (.int p0), .val (.int p1), .val (.int p2), .val (.int p3), .val (.int p4), .val (.int p5), .val (.int (1 : Int32)), .val (.int md), .val (.int ca), .val (.int d0), .val (.int d1), .val (.int d2), .val (.int y2), .val (.ref b1), .val (.int qq), .val (.int p3)] []))
          refine OwnGo.fwd (fun tq' kq' => XS.iconst X25.here hx rfl (hb hby at_280) kq') ?_
          show OwnGo _ _ _ _ (T25.setTop (mkF m 281 #[.val (.int p0), .val (.int p1), .val (.int p2), .val (.int p3), .val (.int p4), .val (.int p5), .val (.int (1 : Int32)), .val (.int md), .val (.int ca), .val (.int d0), .val (.int d1), .val (.int d2), .val (.int y2), .val (.ref b1), .val (.int qq), .val (.int p3)] [(.int (1 : Int32))]))
          refine OwnGo.fwd (fun tq' kq' => XS.goto X25.here hx rfl (pc0 := 281) (pc' := 285) rfl (hb hby at_281) (by decide) (by decide) kq') ?_
          show OwnGo _ _ _ _ (T25.setTop (mkF m 285 #[.val (.int p0), .val (.int p1), .val (.int p2), .val (.int p3), .val (.int p4), .val (.int p5), .val (.int (1 : Int32)), .val (.int md), .val (.int ca), .val (.int d0), .val (.int d1), .val (.int d2), .val (.int y2), .val (.ref b1), .val (.int qq), .val (.int p3)] [(.int (1 : Int32))]))
          exact own_retZ X25 hlk hx Bd.returns (hb hby at_285) (by decide) (by decide) e25 ⟨rfl, N⟩
        · refine OwnGo.fwd (fun tq' kq' => XS.icmpYes X18.here hx rfl (pc0 := 228) (pc' := 234) rfl (hb hby at_228) rfl (own_bneq rfl rfl hc228_22).2 (by decide) (by decide) kq') ?_
          show OwnGo _ _ _ _ (T18.setTop (mkF m 234 #[.val (.int p0), .val (.int p1), .val (.int p2), .val (.int p3), .val (.int p4), .val (.int p5), .val (.int (1 : Int32)), .val (.int md), .val (.int ca), .val (.int d0), .val (.int d1), .val (.int d2), .val (.int y2), .val (.ref b1), .val (.int qq), .val (.int (0 : Int32))] []))
          refine OwnGo.fwd (fun tq' kq' => XS.iload X18.here hx rfl (hb hby at_234) rfl kq') ?_
          show OwnGo _ _ _ _ (T18.setTop (mkF m 236 #[.val (.int p0), .val (.int p1), .val (.int p2), .val (.int p3), .val (.int p4), .val (.int p5), .val (.int (1 : Int32)), .val (.int md), .val (.int ca), .val (.int d0), .val (.int d1), .val (.int d2), .val (.int y2), .val (.ref b1), .val (.int qq), .val (.int (0 : Int32))] [(.int (1 : Int32))]))
          refine OwnGo.fwd (fun tq' kq' => XS.iconst X18.here hx rfl (hb hby at_236) kq') ?_
          show OwnGo _ _ _ _ (T18.setTop (mkF m 237 #[.val (.int p0), .val (.int p1), .val (.int p2), .val (.int p3), .val (.int p4), .val (.int p5), .val (.int (1 : Int32)), .val (.int md), .val (.int ca), .val (.int d0), .val (.int d1), .val (.int d2), .val (.int y2), .val (.ref b1), .val (.int qq), .val (.int (0 : Int32))] [(.int (1 : Int32)), (.int (1 : Int32))]))
          have hc237_27 : ¬ ((1 : Int) < (1 : Int)) := by decide
          refine OwnGo.fwd (fun tq' kq' => XS.icmpYes X18.here hx rfl (pc0 := 237) (pc' := 251) rfl (hb hby at_237) rfl (own_bnlt (by decide) (by decide) hc237_27).2.2.2 (by decide) (by decide) kq') ?_
          show OwnGo _ _ _ _ (T18.setTop (mkF m 251 #[.val (.int p0), .val (.int p1), .val (.int p2), .val (.int p3), .val (.int p4), .val (.int p5), .val (.int (1 : Int32)), .val (.int md), .val (.int ca), .val (.int d0), .val (.int d1), .val (.int d2), .val (.int y2), .val (.ref b1), .val (.int qq), .val (.int (0 : Int32))] []))
          refine OwnGo.fwd (fun tq' kq' => XS.iload X18.here hx rfl (hb hby at_251) rfl kq') ?_
          show OwnGo _ _ _ _ (T18.setTop (mkF m 253 #[.val (.int p0), .val (.int p1), .val (.int p2), .val (.int p3), .val (.int p4), .val (.int p5), .val (.int (1 : Int32)), .val (.int md), .val (.int ca), .val (.int d0), .val (.int d1), .val (.int d2), .val (.int y2), .val (.ref b1), .val (.int qq), .val (.int (0 : Int32))] [(.int (1 : Int32))]))
          refine OwnGo.fwd (fun tq' kq' => XS.iconst X18.here hx rfl (hb hby at_253) kq') ?_
          show OwnGo _ _ _ _ (T18.setTop (mkF m 254 #[.val (.int p0), .val (.int p1), .val (.int p2), .val (.int p3), .val (.int p4), .val (.int p5), .val (.int (1 : Int32)), .val (.int md), .val (.int ca), .val (.int d0), .val (.int d1), .val (.int d2), .val (.int y2), .val (.ref b1), .val (.int qq), .val (.int (0 : Int32))] [(.int (2 : Int32)), (.int (1 : Int32))]))
          have hc254_28 : ¬ ((2 : Int) < (1 : Int)) := by decide
          refine OwnGo.fwd (fun tq' kq' => XS.icmpYes X18.here hx rfl (pc0 := 254) (pc' := 268) rfl (hb hby at_254) rfl (own_bnlt (by decide) (by decide) hc254_28).2.2.2 (by decide) (by decide) kq') ?_
          show OwnGo _ _ _ _ (T18.setTop (mkF m 268 #[.val (.int p0), .val (.int p1), .val (.int p2), .val (.int p3), .val (.int p4), .val (.int p5), .val (.int (1 : Int32)), .val (.int md), .val (.int ca), .val (.int d0), .val (.int d1), .val (.int d2), .val (.int y2), .val (.ref b1), .val (.int qq), .val (.int (0 : Int32))] []))
          refine OwnGo.fwd (fun tq' kq' => XS.aload X18.here hx rfl (hb hby at_268) rfl rfl kq') ?_
          show OwnGo _ _ _ _ (T18.setTop (mkF m 270 #[.val (.int p0), .val (.int p1), .val (.int p2), .val (.int p3), .val (.int p4), .val (.int p5), .val (.int (1 : Int32)), .val (.int md), .val (.int ca), .val (.int d0), .val (.int d1), .val (.int d2), .val (.int y2), .val (.ref b1), .val (.int qq), .val (.int (0 : Int32))] [(.ref b1)]))
          refine OwnGo.fwd (fun tq' kq' => XS.iload X18.here hx rfl (hb hby at_270) rfl kq') ?_
          show OwnGo _ _ _ _ (T18.setTop (mkF m 272 #[.val (.int p0), .val (.int p1), .val (.int p2), .val (.int p3), .val (.int p4), .val (.int p5), .val (.int (1 : Int32)), .val (.int md), .val (.int ca), .val (.int d0), .val (.int d1), .val (.int d2), .val (.int y2), .val (.ref b1), .val (.int qq), .val (.int (0 : Int32))] [(.int qq), (.ref b1)]))
          obtain ⟨cq29, kq29, q29a, q29b, q29c⟩ := isOf hZ eh18.symm E_b1
          obtain ⟨_, _, ⟨T29, L29, k29, n29⟩, -, X29, ⟨Lc29, hQ29, l29, y29, z29⟩, st29⟩ := X18.virtualBack hx (y := (⟨"com/example/inverse_frequency/inversefrequency/Postings", "frequencyIn", "(I)I"⟩ : MethodName)) (z := (⟨"com/example/inverse_frequency/inversefrequency/Postings", "frequencyIn", "(I)I"⟩ : MethodName)) hown (mvT hZ (hw _ (List.mem_of_getElem? (i := 19) rfl))) (mvT hZ (hw _ (List.mem_of_getElem? (i := 20) rfl))) (notFace_of_selects (args := #[]) (mvT hZ (hw _ (List.mem_of_getElem? (i := 22) rfl)))) (mvT hZ (hw _ (List.mem_of_getElem? (i := 22) rfl))) (mvT hZ (hw _ (List.mem_of_getElem? (i := 21) rfl))) (by decide) (backOf (W := 0) (rm4n1 l Z a0 hw [] b1 da1 fa1 ((0 : Int64) + p3.toInt64) cp1 f1 g1 qq h18 n0 Zs ⟨E_b1, F_documents_b1, F_frequencies_b1, F_size_b1, F_totalFrequency_b1, V_da1, V_fa1, ne_b1_da1, ne_b1_fa1, ne_da1_fa1, g_b1, g_da1, g_fa1⟩ (by omega)) hZ (hw _ (List.mem_of_getElem? (i := 23) rfl)) (hw _ (List.mem_of_getElem? (i := 3) rfl)) (by decide) (by decide)) q29a q29c (g := (mkF m 272 #[.val (.int p0), .val (.int p1), .val (.int p2), .val (.int p3), .val (.int p4), .val (.int p5), .val (.int (1 : Int32)), .val (.int md), .val (.int ca), .val (.int d0), .val (.int d1), .val (.int d2), .val (.int y2), .val (.ref b1), .val (.int qq), .val (.int (0 : Int32))] [(.int qq), (.ref b1)])) rfl (by rw [hml]; rfl) (Steps.refl _) (argsL := [(.int qq)]) (rest := []) (lenOf pd_3 rfl) rfl (by show 2 * 0 + _ ≤ _; exact Nat.le_of_eq rfl) (hb hby at_272) (fun _ _ => ⟨rfl, eh18.symm, (by decide : 5 + 0 ≤ _), (by decide : 22 + 0 ≤ _)⟩)
          dsimp only [Pt.U, Pt.locs, Pt.cells, Pt.slots] at X29 l29 y29 z29 st29 hQ29
          subst l29 y29 z29
          obtain ⟨N29q, e29, r29, rfl, hr29⟩ := hQ29
          have N := Fr.app N N29q
          refine OwnGo.thru st29 ?_
          show OwnGo _ _ _ _ (T29.setTop (mkF m 275 #[.val (.int p0), .val (.int p1), .val (.int p2), .val (.int p3), .val (.int p4), .val (.int p5), .val (.int (1 : Int32)), .val (.int md), .val (.int ca), .val (.int d0), .val (.int d1), .val (.int d2), .val (.int y2), .val (.ref b1), .val (.int qq), .val (.int (0 : Int32))] [(.int r29)]))
          refine OwnGo.fwd (fun tq' kq' => XS.iload X29.here hx rfl (hb hby at_275) rfl kq') ?_
          show OwnGo _ _ _ _ (T29.setTop (mkF m 277 #[.val (.int p0), .val (.int p1), .val (.int p2), .val (.int p3), .val (.int p4), .val (.int p5), .val (.int (1 : Int32)), .val (.int md), .val (.int ca), .val (.int d0), .val (.int d1), .val (.int d2), .val (.int y2), .val (.ref b1), .val (.int qq), .val (.int (0 : Int32))] [(.int (0 : Int32)), (.int r29)]))
          have hc277_30 : r29.toInt = 0 := by
              rcases hr29 with ⟨i, hi, e, hr⟩ | ⟨hall, hr⟩
              · have : i = 0 := by omega
                rcases this with rfl
                · rw [ef1_0] at e; rw [hr, eg1_0] <;> first | rfl | omega
              · have h0a := hall 0 (by decide); rw [ef1_0] at h0a; rw [hr] <;> first | rfl | omega
          refine OwnGo.fwd (fun tq' kq' => XS.icmpNo X29.here hx rfl (hb hby at_277) rfl (own_beq rfl (by decide) hc277_30).2 kq') ?_
          show OwnGo _ _ _ _ (T29.setTop (mkF m 280 #[.val (.int p0), .val (.int p1), .val (.int p2), .val (.int p3), .val (.int p4), .val (.int p5), .val (.int (1 : Int32)), .val (.int md), .val (.int ca), .val (.int d0), .val (.int d1), .val (.int d2), .val (.int y2), .val (.ref b1), .val (.int qq), .val (.int (0 : Int32))] []))
          refine OwnGo.fwd (fun tq' kq' => XS.iconst X29.here hx rfl (hb hby at_280) kq') ?_
          show OwnGo _ _ _ _ (T29.setTop (mkF m 281 #[.val (.int p0), .val (.int p1), .val (.int p2), .val (.int p3), .val (.int p4), .val (.int p5), .val (.int (1 : Int32)), .val (.int md), .val (.int ca), .val (.int d0), .val (.int d1), .val (.int d2), .val (.int y2), .val (.ref b1), .val (.int qq), .val (.int (0 : Int32))] [(.int (1 : Int32))]))
          refine OwnGo.fwd (fun tq' kq' => XS.goto X29.here hx rfl (pc0 := 281) (pc' := 285) rfl (hb hby at_281) (by decide) (by decide) kq') ?_
          show OwnGo _ _ _ _ (T29.setTop (mkF m 285 #[.val (.int p0), .val (.int p1), .val (.int p2), .val (.int p3), .val (.int p4), .val (.int p5), .val (.int (1 : Int32)), .val (.int md), .val (.int ca), .val (.int d0), .val (.int d1), .val (.int d2), .val (.int y2), .val (.ref b1), .val (.int qq), .val (.int (0 : Int32))] [(.int (1 : Int32))]))
          exact own_retZ X29 hlk hx Bd.returns (hb hby at_285) (by decide) (by decide) e29 ⟨rfl, N⟩
      refine OwnGo.fwd (fun tq' kq' => XS.iload X18.here hx rfl (hb hby at_129) rfl kq') ?_
      show OwnGo _ _ _ _ (T18.setTop (mkF m 131 #[.val (.int p0), .val (.int p1), .val (.int p2), .val (.int p3), .val (.int p4), .val (.int p5), .val (.int (1 : Int32)), .val (.int md), .val (.int ca), .val (.int d0), .val (.int d1), .val (.int d2), .val (.int y2), .val (.ref b1), .unset, .unset] [(.int md)]))
      by_cases hc131_31 : md.toInt = 0
      · refine OwnGo.fwd (fun tq' kq' => XS.ifNo X18.here hx rfl (hb hby at_131) rfl ((if0 _ _).trans (own_beq rfl (by decide) hc131_31).2) kq') ?_
        show OwnGo _ _ _ _ (T18.setTop (mkF m 134 #[.val (.int p0), .val (.int p1), .val (.int p2), .val (.int p3), .val (.int p4), .val (.int p5), .val (.int (1 : Int32)), .val (.int md), .val (.int ca), .val (.int d0), .val (.int d1), .val (.int d2), .val (.int y2), .val (.ref b1), .unset, .unset] []))
        refine OwnGo.fwd (fun tq' kq' => XS.iload X18.here hx rfl (hb hby at_134) rfl kq') ?_
        show OwnGo _ _ _ _ (T18.setTop (mkF m 136 #[.val (.int p0), .val (.int p1), .val (.int p2), .val (.int p3), .val (.int p4), .val (.int p5), .val (.int (1 : Int32)), .val (.int md), .val (.int ca), .val (.int d0), .val (.int d1), .val (.int d2), .val (.int y2), .val (.ref b1), .unset, .unset] [(.int d0)]))
        refine OwnGo.fwd (fun tq' kq' => XS.istore X18.here hx rfl (hb hby at_136) rfl (l' := #[.val (.int p0), .val (.int p1), .val (.int p2), .val (.int p3), .val (.int p4), .val (.int p5), .val (.int (1 : Int32)), .val (.int md), .val (.int ca), .val (.int d0), .val (.int d1), .val (.int d2), .val (.int y2), .val (.ref b1), .val (.int d0), .unset]) rfl kq') ?_
        show OwnGo _ _ _ _ (T18.setTop (mkF m 138 #[.val (.int p0), .val (.int p1), .val (.int p2), .val (.int p3), .val (.int p4), .val (.int p5), .val (.int (1 : Int32)), .val (.int md), .val (.int ca), .val (.int d0), .val (.int d1), .val (.int d2), .val (.int y2), .val (.ref b1), .val (.int d0), .unset] []))
        refine OwnGo.fwd (fun tq' kq' => XS.goto X18.here hx rfl (pc0 := 138) (pc' := 216) rfl (hb hby at_138) (by decide) (by decide) kq') ?_
        show OwnGo _ _ _ _ (T18.setTop (mkF m 216 #[.val (.int p0), .val (.int p1), .val (.int p2), .val (.int p3), .val (.int p4), .val (.int p5), .val (.int (1 : Int32)), .val (.int md), .val (.int ca), .val (.int d0), .val (.int d1), .val (.int d2), .val (.int y2), .val (.ref b1), .val (.int d0), .unset] []))
        exact J216 _
      · refine OwnGo.fwd (fun tq' kq' => XS.ifYes X18.here hx rfl (pc0 := 131) (pc' := 141) rfl (hb hby at_131) rfl ((if0 _ _).trans (own_bneq rfl (by decide) hc131_31).2) (by decide) (by decide) kq') ?_
        show OwnGo _ _ _ _ (T18.setTop (mkF m 141 #[.val (.int p0), .val (.int p1), .val (.int p2), .val (.int p3), .val (.int p4), .val (.int p5), .val (.int (1 : Int32)), .val (.int md), .val (.int ca), .val (.int d0), .val (.int d1), .val (.int d2), .val (.int y2), .val (.ref b1), .unset, .unset] []))
        refine OwnGo.fwd (fun tq' kq' => XS.iload X18.here hx rfl (hb hby at_141) rfl kq') ?_
        show OwnGo _ _ _ _ (T18.setTop (mkF m 143 #[.val (.int p0), .val (.int p1), .val (.int p2), .val (.int p3), .val (.int p4), .val (.int p5), .val (.int (1 : Int32)), .val (.int md), .val (.int ca), .val (.int d0), .val (.int d1), .val (.int d2), .val (.int y2), .val (.ref b1), .unset, .unset] [(.int md)]))
        refine OwnGo.fwd (fun tq' kq' => XS.iconst X18.here hx rfl (hb hby at_143) kq') ?_
        show OwnGo _ _ _ _ (T18.setTop (mkF m 144 #[.val (.int p0), .val (.int p1), .val (.int p2), .val (.int p3), .val (.int p4), .val (.int p5), .val (.int (1 : Int32)), .val (.int md), .val (.int ca), .val (.int d0), .val (.int d1), .val (.int d2), .val (.int y2), .val (.ref b1), .unset, .unset] [(.int (1 : Int32)), (.int md)]))
        by_cases hc144_32 : md.toInt = 1
        · refine OwnGo.fwd (fun tq' kq' => XS.icmpNo X18.here hx rfl (hb hby at_144) rfl (own_beq rfl (by decide) hc144_32).2 kq') ?_
          show OwnGo _ _ _ _ (T18.setTop (mkF m 147 #[.val (.int p0), .val (.int p1), .val (.int p2), .val (.int p3), .val (.int p4), .val (.int p5), .val (.int (1 : Int32)), .val (.int md), .val (.int ca), .val (.int d0), .val (.int d1), .val (.int d2), .val (.int y2), .val (.ref b1), .unset, .unset] []))
          refine OwnGo.fwd (fun tq' kq' => XS.iload X18.here hx rfl (hb hby at_147) rfl kq') ?_
          show OwnGo _ _ _ _ (T18.setTop (mkF m 149 #[.val (.int p0), .val (.int p1), .val (.int p2), .val (.int p3), .val (.int p4), .val (.int p5), .val (.int (1 : Int32)), .val (.int md), .val (.int ca), .val (.int d0), .val (.int d1), .val (.int d2), .val (.int y2), .val (.ref b1), .unset, .unset] [(.int d1)]))
          refine OwnGo.fwd (fun tq' kq' => XS.istore X18.here hx rfl (hb hby at_149) rfl (l' := #[.val (.int p0), .val (.int p1), .val (.int p2), .val (.int p3), .val (.int p4), .val (.int p5), .val (.int (1 : Int32)), .val (.int md), .val (.int ca), .val (.int d0), .val (.int d1), .val (.int d2), .val (.int y2), .val (.ref b1), .val (.int d1), .unset]) rfl kq') ?_
          show OwnGo _ _ _ _ (T18.setTop (mkF m 151 #[.val (.int p0), .val (.int p1), .val (.int p2), .val (.int p3), .val (.int p4), .val (.int p5), .val (.int (1 : Int32)), .val (.int md), .val (.int ca), .val (.int d0), .val (.int d1), .val (.int d2), .val (.int y2), .val (.ref b1), .val (.int d1), .unset] []))
          refine OwnGo.fwd (fun tq' kq' => XS.goto X18.here hx rfl (pc0 := 151) (pc' := 216) rfl (hb hby at_151) (by decide) (by decide) kq') ?_
          show OwnGo _ _ _ _ (T18.setTop (mkF m 216 #[.val (.int p0), .val (.int p1), .val (.int p2), .val (.int p3), .val (.int p4), .val (.int p5), .val (.int (1 : Int32)), .val (.int md), .val (.int ca), .val (.int d0), .val (.int d1), .val (.int d2), .val (.int y2), .val (.ref b1), .val (.int d1), .unset] []))
          exact J216 _
        · refine OwnGo.fwd (fun tq' kq' => XS.icmpYes X18.here hx rfl (pc0 := 144) (pc' := 154) rfl (hb hby at_144) rfl (own_bneq rfl (by decide) hc144_32).2 (by decide) (by decide) kq') ?_
          show OwnGo _ _ _ _ (T18.setTop (mkF m 154 #[.val (.int p0), .val (.int p1), .val (.int p2), .val (.int p3), .val (.int p4), .val (.int p5), .val (.int (1 : Int32)), .val (.int md), .val (.int ca), .val (.int d0), .val (.int d1), .val (.int d2), .val (.int y2), .val (.ref b1), .unset, .unset] []))
          refine OwnGo.fwd (fun tq' kq' => XS.iload X18.here hx rfl (hb hby at_154) rfl kq') ?_
          show OwnGo _ _ _ _ (T18.setTop (mkF m 156 #[.val (.int p0), .val (.int p1), .val (.int p2), .val (.int p3), .val (.int p4), .val (.int p5), .val (.int (1 : Int32)), .val (.int md), .val (.int ca), .val (.int d0), .val (.int d1), .val (.int d2), .val (.int y2), .val (.ref b1), .unset, .unset] [(.int md)]))
          refine OwnGo.fwd (fun tq' kq' => XS.iconst X18.here hx rfl (hb hby at_156) kq') ?_
          show OwnGo _ _ _ _ (T18.setTop (mkF m 157 #[.val (.int p0), .val (.int p1), .val (.int p2), .val (.int p3), .val (.int p4), .val (.int p5), .val (.int (1 : Int32)), .val (.int md), .val (.int ca), .val (.int d0), .val (.int d1), .val (.int d2), .val (.int y2), .val (.ref b1), .unset, .unset] [(.int (2 : Int32)), (.int md)]))
          by_cases hc157_33 : md.toInt = 2
          · refine OwnGo.fwd (fun tq' kq' => XS.icmpNo X18.here hx rfl (hb hby at_157) rfl (own_beq rfl (by decide) hc157_33).2 kq') ?_
            show OwnGo _ _ _ _ (T18.setTop (mkF m 160 #[.val (.int p0), .val (.int p1), .val (.int p2), .val (.int p3), .val (.int p4), .val (.int p5), .val (.int (1 : Int32)), .val (.int md), .val (.int ca), .val (.int d0), .val (.int d1), .val (.int d2), .val (.int y2), .val (.ref b1), .unset, .unset] []))
            refine OwnGo.fwd (fun tq' kq' => XS.iload X18.here hx rfl (hb hby at_160) rfl kq') ?_
            show OwnGo _ _ _ _ (T18.setTop (mkF m 162 #[.val (.int p0), .val (.int p1), .val (.int p2), .val (.int p3), .val (.int p4), .val (.int p5), .val (.int (1 : Int32)), .val (.int md), .val (.int ca), .val (.int d0), .val (.int d1), .val (.int d2), .val (.int y2), .val (.ref b1), .unset, .unset] [(.int d2)]))
            refine OwnGo.fwd (fun tq' kq' => XS.istore X18.here hx rfl (hb hby at_162) rfl (l' := #[.val (.int p0), .val (.int p1), .val (.int p2), .val (.int p3), .val (.int p4), .val (.int p5), .val (.int (1 : Int32)), .val (.int md), .val (.int ca), .val (.int d0), .val (.int d1), .val (.int d2), .val (.int y2), .val (.ref b1), .val (.int d2), .unset]) rfl kq') ?_
            show OwnGo _ _ _ _ (T18.setTop (mkF m 164 #[.val (.int p0), .val (.int p1), .val (.int p2), .val (.int p3), .val (.int p4), .val (.int p5), .val (.int (1 : Int32)), .val (.int md), .val (.int ca), .val (.int d0), .val (.int d1), .val (.int d2), .val (.int y2), .val (.ref b1), .val (.int d2), .unset] []))
            refine OwnGo.fwd (fun tq' kq' => XS.goto X18.here hx rfl (pc0 := 164) (pc' := 216) rfl (hb hby at_164) (by decide) (by decide) kq') ?_
            show OwnGo _ _ _ _ (T18.setTop (mkF m 216 #[.val (.int p0), .val (.int p1), .val (.int p2), .val (.int p3), .val (.int p4), .val (.int p5), .val (.int (1 : Int32)), .val (.int md), .val (.int ca), .val (.int d0), .val (.int d1), .val (.int d2), .val (.int y2), .val (.ref b1), .val (.int d2), .unset] []))
            exact J216 _
          · refine OwnGo.fwd (fun tq' kq' => XS.icmpYes X18.here hx rfl (pc0 := 157) (pc' := 167) rfl (hb hby at_157) rfl (own_bneq rfl (by decide) hc157_33).2 (by decide) (by decide) kq') ?_
            show OwnGo _ _ _ _ (T18.setTop (mkF m 167 #[.val (.int p0), .val (.int p1), .val (.int p2), .val (.int p3), .val (.int p4), .val (.int p5), .val (.int (1 : Int32)), .val (.int md), .val (.int ca), .val (.int d0), .val (.int d1), .val (.int d2), .val (.int y2), .val (.ref b1), .unset, .unset] []))
            refine OwnGo.fwd (fun tq' kq' => XS.iload X18.here hx rfl (hb hby at_167) rfl kq') ?_
            show OwnGo _ _ _ _ (T18.setTop (mkF m 169 #[.val (.int p0), .val (.int p1), .val (.int p2), .val (.int p3), .val (.int p4), .val (.int p5), .val (.int (1 : Int32)), .val (.int md), .val (.int ca), .val (.int d0), .val (.int d1), .val (.int d2), .val (.int y2), .val (.ref b1), .unset, .unset] [(.int md)]))
            refine OwnGo.fwd (fun tq' kq' => XS.iconst X18.here hx rfl (hb hby at_169) kq') ?_
            show OwnGo _ _ _ _ (T18.setTop (mkF m 170 #[.val (.int p0), .val (.int p1), .val (.int p2), .val (.int p3), .val (.int p4), .val (.int p5), .val (.int (1 : Int32)), .val (.int md), .val (.int ca), .val (.int d0), .val (.int d1), .val (.int d2), .val (.int y2), .val (.ref b1), .unset, .unset] [(.int (3 : Int32)), (.int md)]))
            by_cases hc170_34 : md.toInt = 3
            · refine OwnGo.fwd (fun tq' kq' => XS.icmpNo X18.here hx rfl (hb hby at_170) rfl (own_beq rfl (by decide) hc170_34).2 kq') ?_
              show OwnGo _ _ _ _ (T18.setTop (mkF m 173 #[.val (.int p0), .val (.int p1), .val (.int p2), .val (.int p3), .val (.int p4), .val (.int p5), .val (.int (1 : Int32)), .val (.int md), .val (.int ca), .val (.int d0), .val (.int d1), .val (.int d2), .val (.int y2), .val (.ref b1), .unset, .unset] []))
              refine OwnGo.fwd (fun tq' kq' => XS.iload X18.here hx rfl (hb hby at_173) rfl kq') ?_
              show OwnGo _ _ _ _ (T18.setTop (mkF m 175 #[.val (.int p0), .val (.int p1), .val (.int p2), .val (.int p3), .val (.int p4), .val (.int p5), .val (.int (1 : Int32)), .val (.int md), .val (.int ca), .val (.int d0), .val (.int d1), .val (.int d2), .val (.int y2), .val (.ref b1), .unset, .unset] [(.int d0)]))
              refine OwnGo.fwd (fun tq' kq' => XS.iconst X18.here hx rfl (hb hby at_175) kq') ?_
              show OwnGo _ _ _ _ (T18.setTop (mkF m 176 #[.val (.int p0), .val (.int p1), .val (.int p2), .val (.int p3), .val (.int p4), .val (.int p5), .val (.int (1 : Int32)), .val (.int md), .val (.int ca), .val (.int d0), .val (.int d1), .val (.int d2), .val (.int y2), .val (.ref b1), .unset, .unset] [(.int (1 : Int32)), (.int d0)]))
              refine OwnGo.fwd (fun tq' kq' => XS.isub X18.here hx rfl (hb hby at_176) rfl kq') ?_
              show OwnGo _ _ _ _ (T18.setTop (mkF m 177 #[.val (.int p0), .val (.int p1), .val (.int p2), .val (.int p3), .val (.int p4), .val (.int p5), .val (.int (1 : Int32)), .val (.int md), .val (.int ca), .val (.int d0), .val (.int d1), .val (.int d2), .val (.int y2), .val (.ref b1), .unset, .unset] [(.int (d0 - (1 : Int32)))]))
              refine OwnGo.fwd (fun tq' kq' => XS.istore X18.here hx rfl (hb hby at_177) rfl (l' := #[.val (.int p0), .val (.int p1), .val (.int p2), .val (.int p3), .val (.int p4), .val (.int p5), .val (.int (1 : Int32)), .val (.int md), .val (.int ca), .val (.int d0), .val (.int d1), .val (.int d2), .val (.int y2), .val (.ref b1), .val (.int (d0 - (1 : Int32))), .unset]) rfl kq') ?_
              show OwnGo _ _ _ _ (T18.setTop (mkF m 179 #[.val (.int p0), .val (.int p1), .val (.int p2), .val (.int p3), .val (.int p4), .val (.int p5), .val (.int (1 : Int32)), .val (.int md), .val (.int ca), .val (.int d0), .val (.int d1), .val (.int d2), .val (.int y2), .val (.ref b1), .val (.int (d0 - (1 : Int32))), .unset] []))
              refine OwnGo.fwd (fun tq' kq' => XS.goto X18.here hx rfl (pc0 := 179) (pc' := 216) rfl (hb hby at_179) (by decide) (by decide) kq') ?_
              show OwnGo _ _ _ _ (T18.setTop (mkF m 216 #[.val (.int p0), .val (.int p1), .val (.int p2), .val (.int p3), .val (.int p4), .val (.int p5), .val (.int (1 : Int32)), .val (.int md), .val (.int ca), .val (.int d0), .val (.int d1), .val (.int d2), .val (.int y2), .val (.ref b1), .val (.int (d0 - (1 : Int32))), .unset] []))
              exact J216 _
            · refine OwnGo.fwd (fun tq' kq' => XS.icmpYes X18.here hx rfl (pc0 := 170) (pc' := 182) rfl (hb hby at_170) rfl (own_bneq rfl (by decide) hc170_34).2 (by decide) (by decide) kq') ?_
              show OwnGo _ _ _ _ (T18.setTop (mkF m 182 #[.val (.int p0), .val (.int p1), .val (.int p2), .val (.int p3), .val (.int p4), .val (.int p5), .val (.int (1 : Int32)), .val (.int md), .val (.int ca), .val (.int d0), .val (.int d1), .val (.int d2), .val (.int y2), .val (.ref b1), .unset, .unset] []))
              refine OwnGo.fwd (fun tq' kq' => XS.iload X18.here hx rfl (hb hby at_182) rfl kq') ?_
              show OwnGo _ _ _ _ (T18.setTop (mkF m 184 #[.val (.int p0), .val (.int p1), .val (.int p2), .val (.int p3), .val (.int p4), .val (.int p5), .val (.int (1 : Int32)), .val (.int md), .val (.int ca), .val (.int d0), .val (.int d1), .val (.int d2), .val (.int y2), .val (.ref b1), .unset, .unset] [(.int md)]))
              refine OwnGo.fwd (fun tq' kq' => XS.iconst X18.here hx rfl (hb hby at_184) kq') ?_
              show OwnGo _ _ _ _ (T18.setTop (mkF m 185 #[.val (.int p0), .val (.int p1), .val (.int p2), .val (.int p3), .val (.int p4), .val (.int p5), .val (.int (1 : Int32)), .val (.int md), .val (.int ca), .val (.int d0), .val (.int d1), .val (.int d2), .val (.int y2), .val (.ref b1), .unset, .unset] [(.int (4 : Int32)), (.int md)]))
              by_cases hc185_35 : md.toInt = 4
              · refine OwnGo.fwd (fun tq' kq' => XS.icmpNo X18.here hx rfl (hb hby at_185) rfl (own_beq rfl (by decide) hc185_35).2 kq') ?_
                show OwnGo _ _ _ _ (T18.setTop (mkF m 188 #[.val (.int p0), .val (.int p1), .val (.int p2), .val (.int p3), .val (.int p4), .val (.int p5), .val (.int (1 : Int32)), .val (.int md), .val (.int ca), .val (.int d0), .val (.int d1), .val (.int d2), .val (.int y2), .val (.ref b1), .unset, .unset] []))
                refine OwnGo.fwd (fun tq' kq' => XS.iload X18.here hx rfl (hb hby at_188) rfl kq') ?_
                show OwnGo _ _ _ _ (T18.setTop (mkF m 190 #[.val (.int p0), .val (.int p1), .val (.int p2), .val (.int p3), .val (.int p4), .val (.int p5), .val (.int (1 : Int32)), .val (.int md), .val (.int ca), .val (.int d0), .val (.int d1), .val (.int d2), .val (.int y2), .val (.ref b1), .unset, .unset] [(.int d1)]))
                refine OwnGo.fwd (fun tq' kq' => XS.iconst X18.here hx rfl (hb hby at_190) kq') ?_
                show OwnGo _ _ _ _ (T18.setTop (mkF m 191 #[.val (.int p0), .val (.int p1), .val (.int p2), .val (.int p3), .val (.int p4), .val (.int p5), .val (.int (1 : Int32)), .val (.int md), .val (.int ca), .val (.int d0), .val (.int d1), .val (.int d2), .val (.int y2), .val (.ref b1), .unset, .unset] [(.int (1 : Int32)), (.int d1)]))
                refine OwnGo.fwd (fun tq' kq' => XS.isub X18.here hx rfl (hb hby at_191) rfl kq') ?_
                show OwnGo _ _ _ _ (T18.setTop (mkF m 192 #[.val (.int p0), .val (.int p1), .val (.int p2), .val (.int p3), .val (.int p4), .val (.int p5), .val (.int (1 : Int32)), .val (.int md), .val (.int ca), .val (.int d0), .val (.int d1), .val (.int d2), .val (.int y2), .val (.ref b1), .unset, .unset] [(.int (d1 - (1 : Int32)))]))
                refine OwnGo.fwd (fun tq' kq' => XS.istore X18.here hx rfl (hb hby at_192) rfl (l' := #[.val (.int p0), .val (.int p1), .val (.int p2), .val (.int p3), .val (.int p4), .val (.int p5), .val (.int (1 : Int32)), .val (.int md), .val (.int ca), .val (.int d0), .val (.int d1), .val (.int d2), .val (.int y2), .val (.ref b1), .val (.int (d1 - (1 : Int32))), .unset]) rfl kq') ?_
                show OwnGo _ _ _ _ (T18.setTop (mkF m 194 #[.val (.int p0), .val (.int p1), .val (.int p2), .val (.int p3), .val (.int p4), .val (.int p5), .val (.int (1 : Int32)), .val (.int md), .val (.int ca), .val (.int d0), .val (.int d1), .val (.int d2), .val (.int y2), .val (.ref b1), .val (.int (d1 - (1 : Int32))), .unset] []))
                refine OwnGo.fwd (fun tq' kq' => XS.goto X18.here hx rfl (pc0 := 194) (pc' := 216) rfl (hb hby at_194) (by decide) (by decide) kq') ?_
                show OwnGo _ _ _ _ (T18.setTop (mkF m 216 #[.val (.int p0), .val (.int p1), .val (.int p2), .val (.int p3), .val (.int p4), .val (.int p5), .val (.int (1 : Int32)), .val (.int md), .val (.int ca), .val (.int d0), .val (.int d1), .val (.int d2), .val (.int y2), .val (.ref b1), .val (.int (d1 - (1 : Int32))), .unset] []))
                exact J216 _
              · refine OwnGo.fwd (fun tq' kq' => XS.icmpYes X18.here hx rfl (pc0 := 185) (pc' := 197) rfl (hb hby at_185) rfl (own_bneq rfl (by decide) hc185_35).2 (by decide) (by decide) kq') ?_
                show OwnGo _ _ _ _ (T18.setTop (mkF m 197 #[.val (.int p0), .val (.int p1), .val (.int p2), .val (.int p3), .val (.int p4), .val (.int p5), .val (.int (1 : Int32)), .val (.int md), .val (.int ca), .val (.int d0), .val (.int d1), .val (.int d2), .val (.int y2), .val (.ref b1), .unset, .unset] []))
                refine OwnGo.fwd (fun tq' kq' => XS.iload X18.here hx rfl (hb hby at_197) rfl kq') ?_
                show OwnGo _ _ _ _ (T18.setTop (mkF m 199 #[.val (.int p0), .val (.int p1), .val (.int p2), .val (.int p3), .val (.int p4), .val (.int p5), .val (.int (1 : Int32)), .val (.int md), .val (.int ca), .val (.int d0), .val (.int d1), .val (.int d2), .val (.int y2), .val (.ref b1), .unset, .unset] [(.int md)]))
                refine OwnGo.fwd (fun tq' kq' => XS.iconst X18.here hx rfl (hb hby at_199) kq') ?_
                show OwnGo _ _ _ _ (T18.setTop (mkF m 200 #[.val (.int p0), .val (.int p1), .val (.int p2), .val (.int p3), .val (.int p4), .val (.int p5), .val (.int (1 : Int32)), .val (.int md), .val (.int ca), .val (.int d0), .val (.int d1), .val (.int d2), .val (.int y2), .val (.ref b1), .unset, .unset] [(.int (5 : Int32)), (.int md)]))
                by_cases hc200_36 : md.toInt = 5
                · refine OwnGo.fwd (fun tq' kq' => XS.icmpNo X18.here hx rfl (hb hby at_200) rfl (own_beq rfl (by decide) hc200_36).2 kq') ?_
                  show OwnGo _ _ _ _ (T18.setTop (mkF m 203 #[.val (.int p0), .val (.int p1), .val (.int p2), .val (.int p3), .val (.int p4), .val (.int p5), .val (.int (1 : Int32)), .val (.int md), .val (.int ca), .val (.int d0), .val (.int d1), .val (.int d2), .val (.int y2), .val (.ref b1), .unset, .unset] []))
                  refine OwnGo.fwd (fun tq' kq' => XS.iload X18.here hx rfl (hb hby at_203) rfl kq') ?_
                  show OwnGo _ _ _ _ (T18.setTop (mkF m 205 #[.val (.int p0), .val (.int p1), .val (.int p2), .val (.int p3), .val (.int p4), .val (.int p5), .val (.int (1 : Int32)), .val (.int md), .val (.int ca), .val (.int d0), .val (.int d1), .val (.int d2), .val (.int y2), .val (.ref b1), .unset, .unset] [(.int d2)]))
                  refine OwnGo.fwd (fun tq' kq' => XS.iconst X18.here hx rfl (hb hby at_205) kq') ?_
                  show OwnGo _ _ _ _ (T18.setTop (mkF m 206 #[.val (.int p0), .val (.int p1), .val (.int p2), .val (.int p3), .val (.int p4), .val (.int p5), .val (.int (1 : Int32)), .val (.int md), .val (.int ca), .val (.int d0), .val (.int d1), .val (.int d2), .val (.int y2), .val (.ref b1), .unset, .unset] [(.int (1 : Int32)), (.int d2)]))
                  refine OwnGo.fwd (fun tq' kq' => XS.iadd X18.here hx rfl (hb hby at_206) rfl kq') ?_
                  show OwnGo _ _ _ _ (T18.setTop (mkF m 207 #[.val (.int p0), .val (.int p1), .val (.int p2), .val (.int p3), .val (.int p4), .val (.int p5), .val (.int (1 : Int32)), .val (.int md), .val (.int ca), .val (.int d0), .val (.int d1), .val (.int d2), .val (.int y2), .val (.ref b1), .unset, .unset] [(.int (d2 + (1 : Int32)))]))
                  refine OwnGo.fwd (fun tq' kq' => XS.istore X18.here hx rfl (hb hby at_207) rfl (l' := #[.val (.int p0), .val (.int p1), .val (.int p2), .val (.int p3), .val (.int p4), .val (.int p5), .val (.int (1 : Int32)), .val (.int md), .val (.int ca), .val (.int d0), .val (.int d1), .val (.int d2), .val (.int y2), .val (.ref b1), .val (.int (d2 + (1 : Int32))), .unset]) rfl kq') ?_
                  show OwnGo _ _ _ _ (T18.setTop (mkF m 209 #[.val (.int p0), .val (.int p1), .val (.int p2), .val (.int p3), .val (.int p4), .val (.int p5), .val (.int (1 : Int32)), .val (.int md), .val (.int ca), .val (.int d0), .val (.int d1), .val (.int d2), .val (.int y2), .val (.ref b1), .val (.int (d2 + (1 : Int32))), .unset] []))
                  refine OwnGo.fwd (fun tq' kq' => XS.goto X18.here hx rfl (pc0 := 209) (pc' := 216) rfl (hb hby at_209) (by decide) (by decide) kq') ?_
                  show OwnGo _ _ _ _ (T18.setTop (mkF m 216 #[.val (.int p0), .val (.int p1), .val (.int p2), .val (.int p3), .val (.int p4), .val (.int p5), .val (.int (1 : Int32)), .val (.int md), .val (.int ca), .val (.int d0), .val (.int d1), .val (.int d2), .val (.int y2), .val (.ref b1), .val (.int (d2 + (1 : Int32))), .unset] []))
                  exact J216 _
                · refine OwnGo.fwd (fun tq' kq' => XS.icmpYes X18.here hx rfl (pc0 := 200) (pc' := 212) rfl (hb hby at_200) rfl (own_bneq rfl (by decide) hc200_36).2 (by decide) (by decide) kq') ?_
                  show OwnGo _ _ _ _ (T18.setTop (mkF m 212 #[.val (.int p0), .val (.int p1), .val (.int p2), .val (.int p3), .val (.int p4), .val (.int p5), .val (.int (1 : Int32)), .val (.int md), .val (.int ca), .val (.int d0), .val (.int d1), .val (.int d2), .val (.int y2), .val (.ref b1), .unset, .unset] []))
                  refine OwnGo.fwd (fun tq' kq' => XS.iload X18.here hx rfl (hb hby at_212) rfl kq') ?_
                  show OwnGo _ _ _ _ (T18.setTop (mkF m 214 #[.val (.int p0), .val (.int p1), .val (.int p2), .val (.int p3), .val (.int p4), .val (.int p5), .val (.int (1 : Int32)), .val (.int md), .val (.int ca), .val (.int d0), .val (.int d1), .val (.int d2), .val (.int y2), .val (.ref b1), .unset, .unset] [(.int p5)]))
                  refine OwnGo.fwd (fun tq' kq' => XS.istore X18.here hx rfl (hb hby at_214) rfl (l' := #[.val (.int p0), .val (.int p1), .val (.int p2), .val (.int p3), .val (.int p4), .val (.int p5), .val (.int (1 : Int32)), .val (.int md), .val (.int ca), .val (.int d0), .val (.int d1), .val (.int d2), .val (.int y2), .val (.ref b1), .val (.int p5), .unset]) rfl kq') ?_
                  show OwnGo _ _ _ _ (T18.setTop (mkF m 216 #[.val (.int p0), .val (.int p1), .val (.int p2), .val (.int p3), .val (.int p4), .val (.int p5), .val (.int (1 : Int32)), .val (.int md), .val (.int ca), .val (.int d0), .val (.int d1), .val (.int d2), .val (.int y2), .val (.ref b1), .val (.int p5), .unset] []))
                  exact J216 _
    · show OwnGo _ _ _ _ (T2.setTop (mkF m 86 #[.val (.int p0), .val (.int p1), .val (.int p2), .val (.int p3), .val (.int p4), .val (.int p5), .val (.int (2 : Int32)), .val (.int md), .val (.int ca), .val (.int d0), .val (.int d1), .val (.int d2), .val (.int y2), .val (.ref b1), .unset, .unset] []))
      refine OwnGo.fwd (fun tq' kq' => XS.iload X2.here hx rfl (hb hby at_86) rfl kq') ?_
      show OwnGo _ _ _ _ (T2.setTop (mkF m 88 #[.val (.int p0), .val (.int p1), .val (.int p2), .val (.int p3), .val (.int p4), .val (.int p5), .val (.int (2 : Int32)), .val (.int md), .val (.int ca), .val (.int d0), .val (.int d1), .val (.int d2), .val (.int y2), .val (.ref b1), .unset, .unset] [(.int (2 : Int32))]))
      have hc88_37 : (0 : Int) < (2 : Int) := by decide
      refine OwnGo.fwd (fun tq' kq' => XS.ifNo X2.here hx rfl (hb hby at_88) rfl ((if0 _ _).trans (own_blt (by decide) (by decide) hc88_37).2.2.2) kq') ?_
      show OwnGo _ _ _ _ (T2.setTop (mkF m 91 #[.val (.int p0), .val (.int p1), .val (.int p2), .val (.int p3), .val (.int p4), .val (.int p5), .val (.int (2 : Int32)), .val (.int md), .val (.int ca), .val (.int d0), .val (.int d1), .val (.int d2), .val (.int y2), .val (.ref b1), .unset, .unset] []))
      refine OwnGo.fwd (fun tq' kq' => XS.aload X2.here hx rfl (hb hby at_91) rfl rfl kq') ?_
      show OwnGo _ _ _ _ (T2.setTop (mkF m 93 #[.val (.int p0), .val (.int p1), .val (.int p2), .val (.int p3), .val (.int p4), .val (.int p5), .val (.int (2 : Int32)), .val (.int md), .val (.int ca), .val (.int d0), .val (.int d1), .val (.int d2), .val (.int y2), .val (.ref b1), .unset, .unset] [(.ref b1)]))
      refine OwnGo.fwd (fun tq' kq' => XS.iload X2.here hx rfl (hb hby at_93) rfl kq') ?_
      show OwnGo _ _ _ _ (T2.setTop (mkF m 95 #[.val (.int p0), .val (.int p1), .val (.int p2), .val (.int p3), .val (.int p4), .val (.int p5), .val (.int (2 : Int32)), .val (.int md), .val (.int ca), .val (.int d0), .val (.int d1), .val (.int d2), .val (.int y2), .val (.ref b1), .unset, .unset] [(.int d0), (.ref b1)]))
      refine OwnGo.fwd (fun tq' kq' => XS.iloadN X2.here hx rfl (hb hby at_95) rfl kq') ?_
      show OwnGo _ _ _ _ (T2.setTop (mkF m 96 #[.val (.int p0), .val (.int p1), .val (.int p2), .val (.int p3), .val (.int p4), .val (.int p5), .val (.int (2 : Int32)), .val (.int md), .val (.int ca), .val (.int d0), .val (.int d1), .val (.int d2), .val (.int y2), .val (.ref b1), .unset, .unset] [(.int p3), (.int d0), (.ref b1)]))
      obtain ⟨cq38, kq38, q38a, q38b, q38c⟩ := isOf hZ eh2.symm E_b1
      obtain ⟨_, _, ⟨T38, L38, k38, n38⟩, -, X38, ⟨Lc38, hQ38, l38, y38, z38⟩, st38⟩ := X2.virtualBack hx (y := (⟨"com/example/inverse_frequency/inversefrequency/Postings", "add", "(II)V"⟩ : MethodName)) (z := (⟨"com/example/inverse_frequency/inversefrequency/Postings", "add", "(II)V"⟩ : MethodName)) hown (mvT hZ (hw _ (List.mem_of_getElem? (i := 36) rfl))) (mvT hZ (hw _ (List.mem_of_getElem? (i := 37) rfl))) (notFace_of_selects (args := #[]) (mvT hZ (hw _ (List.mem_of_getElem? (i := 39) rfl)))) (mvT hZ (hw _ (List.mem_of_getElem? (i := 39) rfl))) (mvT hZ (hw _ (List.mem_of_getElem? (i := 38) rfl))) (by decide) (backOf (W := 0) (rm8 l Z a0 hw [] b1 da fa 0 (0 : Int64) cp (fun _ => 0) (fun _ => 0) d0 p3 h2 n0 Zs ⟨E_b1, F_documents_b1, F_frequencies_b1, F_size_b1, F_totalFrequency_b1, V_da, V_fa, ne_b1_da, ne_b1_fa, ne_da_fa, g_b1, g_da, g_fa⟩ (by decide) (Nat.zero_le _) hcp1) hZ (hw _ (List.mem_of_getElem? (i := 40) rfl)) (hw _ (List.mem_of_getElem? (i := 3) rfl)) (by decide) (by decide)) q38a q38c (g := (mkF m 96 #[.val (.int p0), .val (.int p1), .val (.int p2), .val (.int p3), .val (.int p4), .val (.int p5), .val (.int (2 : Int32)), .val (.int md), .val (.int ca), .val (.int d0), .val (.int d1), .val (.int d2), .val (.int y2), .val (.ref b1), .unset, .unset] [(.int p3), (.int d0), (.ref b1)])) rfl (by rw [hml]; rfl) (Steps.refl _) (argsL := [(.int d0), (.int p3)]) (rest := []) (lenOf pd_6 rfl) rfl (by show 2 * 0 + _ ≤ _; exact Nat.le_of_eq rfl) (hb hby at_96) (fun _ _ => ⟨rfl, eh2.symm, (by decide : 3 + 2 ≤ _), (by decide : 14 + 8 ≤ _)⟩)
      dsimp only [Pt.U, Pt.locs, Pt.cells, Pt.slots] at X38 l38 y38 z38 st38 hQ38
      subst l38 y38 z38
      obtain ⟨h38, eh38⟩ : ∃ z, z = T38.heap := ⟨_, rfl⟩
      rw [← eh38] at hQ38
      obtain ⟨rfl, N38q, K38, da1, fa1, cp1, f1, g1, hl1, ⟨E_b1, F_documents_b1, F_frequencies_b1, F_size_b1, F_totalFrequency_b1, V_da1, V_fa1, ne_b1_da1, ne_b1_fa1, ne_da1_fa1, g_b1, g_da1, g_fa1⟩, hf1, hfx1, hg1, hgx1⟩ := hQ38
      have N := Fr.app N N38q
      have Zs := Nat.le_trans Zs K38.1
      refine OwnGo.thru st38 ?_
      show OwnGo _ _ _ _ (T38.setTop (mkF m 99 #[.val (.int p0), .val (.int p1), .val (.int p2), .val (.int p3), .val (.int p4), .val (.int p5), .val (.int (2 : Int32)), .val (.int md), .val (.int ca), .val (.int d0), .val (.int d1), .val (.int d2), .val (.int y2), .val (.ref b1), .unset, .unset] []))
      refine OwnGo.fwd (fun tq' kq' => XS.iload X38.here hx rfl (hb hby at_99) rfl kq') ?_
      show OwnGo _ _ _ _ (T38.setTop (mkF m 101 #[.val (.int p0), .val (.int p1), .val (.int p2), .val (.int p3), .val (.int p4), .val (.int p5), .val (.int (2 : Int32)), .val (.int md), .val (.int ca), .val (.int d0), .val (.int d1), .val (.int d2), .val (.int y2), .val (.ref b1), .unset, .unset] [(.int (2 : Int32))]))
      refine OwnGo.fwd (fun tq' kq' => XS.iconst X38.here hx rfl (hb hby at_101) kq') ?_
      show OwnGo _ _ _ _ (T38.setTop (mkF m 102 #[.val (.int p0), .val (.int p1), .val (.int p2), .val (.int p3), .val (.int p4), .val (.int p5), .val (.int (2 : Int32)), .val (.int md), .val (.int ca), .val (.int d0), .val (.int d1), .val (.int d2), .val (.int y2), .val (.ref b1), .unset, .unset] [(.int (1 : Int32)), (.int (2 : Int32))]))
      have hc102_39 : (1 : Int) < (2 : Int) := by decide
      refine OwnGo.fwd (fun tq' kq' => XS.icmpNo X38.here hx rfl (hb hby at_102) rfl (own_blt (by decide) (by decide) hc102_39).2.2.2 kq') ?_
      show OwnGo _ _ _ _ (T38.setTop (mkF m 105 #[.val (.int p0), .val (.int p1), .val (.int p2), .val (.int p3), .val (.int p4), .val (.int p5), .val (.int (2 : Int32)), .val (.int md), .val (.int ca), .val (.int d0), .val (.int d1), .val (.int d2), .val (.int y2), .val (.ref b1), .unset, .unset] []))
      refine OwnGo.fwd (fun tq' kq' => XS.aload X38.here hx rfl (hb hby at_105) rfl rfl kq') ?_
      show OwnGo _ _ _ _ (T38.setTop (mkF m 107 #[.val (.int p0), .val (.int p1), .val (.int p2), .val (.int p3), .val (.int p4), .val (.int p5), .val (.int (2 : Int32)), .val (.int md), .val (.int ca), .val (.int d0), .val (.int d1), .val (.int d2), .val (.int y2), .val (.ref b1), .unset, .unset] [(.ref b1)]))
      refine OwnGo.fwd (fun tq' kq' => XS.iload X38.here hx rfl (hb hby at_107) rfl kq') ?_
      show OwnGo _ _ _ _ (T38.setTop (mkF m 109 #[.val (.int p0), .val (.int p1), .val (.int p2), .val (.int p3), .val (.int p4), .val (.int p5), .val (.int (2 : Int32)), .val (.int md), .val (.int ca), .val (.int d0), .val (.int d1), .val (.int d2), .val (.int y2), .val (.ref b1), .unset, .unset] [(.int d1), (.ref b1)]))
      refine OwnGo.fwd (fun tq' kq' => XS.iload X38.here hx rfl (hb hby at_109) rfl kq') ?_
      show OwnGo _ _ _ _ (T38.setTop (mkF m 111 #[.val (.int p0), .val (.int p1), .val (.int p2), .val (.int p3), .val (.int p4), .val (.int p5), .val (.int (2 : Int32)), .val (.int md), .val (.int ca), .val (.int d0), .val (.int d1), .val (.int d2), .val (.int y2), .val (.ref b1), .unset, .unset] [(.int p4), (.int d1), (.ref b1)]))
      obtain ⟨cq40, kq40, q40a, q40b, q40c⟩ := isOf hZ eh38.symm E_b1
      obtain ⟨_, _, ⟨T40, L40, k40, n40⟩, -, X40, ⟨Lc40, hQ40, l40, y40, z40⟩, st40⟩ := X38.virtualBack hx (y := (⟨"com/example/inverse_frequency/inversefrequency/Postings", "add", "(II)V"⟩ : MethodName)) (z := (⟨"com/example/inverse_frequency/inversefrequency/Postings", "add", "(II)V"⟩ : MethodName)) hown (mvT hZ (hw _ (List.mem_of_getElem? (i := 36) rfl))) (mvT hZ (hw _ (List.mem_of_getElem? (i := 37) rfl))) (notFace_of_selects (args := #[]) (mvT hZ (hw _ (List.mem_of_getElem? (i := 39) rfl)))) (mvT hZ (hw _ (List.mem_of_getElem? (i := 39) rfl))) (mvT hZ (hw _ (List.mem_of_getElem? (i := 38) rfl))) (by decide) (backOf (W := 0) (rm8 l Z a0 hw [] b1 da1 fa1 1 ((0 : Int64) + p3.toInt64) cp1 f1 g1 d1 p4 h38 n0 Zs ⟨E_b1, F_documents_b1, F_frequencies_b1, F_size_b1, F_totalFrequency_b1, V_da1, V_fa1, ne_b1_da1, ne_b1_fa1, ne_da1_fa1, g_b1, g_da1, g_fa1⟩ (by decide) hl1 (Nat.lt_of_le_of_lt (Nat.zero_le _) hl1)) hZ (hw _ (List.mem_of_getElem? (i := 40) rfl)) (hw _ (List.mem_of_getElem? (i := 3) rfl)) (by decide) (by decide)) q40a q40c (g := (mkF m 111 #[.val (.int p0), .val (.int p1), .val (.int p2), .val (.int p3), .val (.int p4), .val (.int p5), .val (.int (2 : Int32)), .val (.int md), .val (.int ca), .val (.int d0), .val (.int d1), .val (.int d2), .val (.int y2), .val (.ref b1), .unset, .unset] [(.int p4), (.int d1), (.ref b1)])) rfl (by rw [hml]; rfl) (Steps.refl _) (argsL := [(.int d1), (.int p4)]) (rest := []) (lenOf pd_6 rfl) rfl (by show 2 * 0 + _ ≤ _; exact Nat.le_of_eq rfl) (hb hby at_111) (fun _ _ => ⟨rfl, eh38.symm, (by decide : 5 + 2 ≤ _), (by decide : 22 + 8 ≤ _)⟩)
      dsimp only [Pt.U, Pt.locs, Pt.cells, Pt.slots] at X40 l40 y40 z40 st40 hQ40
      subst l40 y40 z40
      obtain ⟨h40, eh40⟩ : ∃ z, z = T40.heap := ⟨_, rfl⟩
      rw [← eh40] at hQ40
      obtain ⟨rfl, N40q, K40, da2, fa2, cp2, f2, g2, hl2, ⟨E_b1, F_documents_b1, F_frequencies_b1, F_size_b1, F_totalFrequency_b1, V_da2, V_fa2, ne_b1_da2, ne_b1_fa2, ne_da2_fa2, g_b1, g_da2, g_fa2⟩, hf2, hfx2, hg2, hgx2⟩ := hQ40
      have N := Fr.app N N40q
      have Zs := Nat.le_trans Zs K40.1
      refine OwnGo.thru st40 ?_
      show OwnGo _ _ _ _ (T40.setTop (mkF m 114 #[.val (.int p0), .val (.int p1), .val (.int p2), .val (.int p3), .val (.int p4), .val (.int p5), .val (.int (2 : Int32)), .val (.int md), .val (.int ca), .val (.int d0), .val (.int d1), .val (.int d2), .val (.int y2), .val (.ref b1), .unset, .unset] []))
      refine OwnGo.fwd (fun tq' kq' => XS.iload X40.here hx rfl (hb hby at_114) rfl kq') ?_
      show OwnGo _ _ _ _ (T40.setTop (mkF m 116 #[.val (.int p0), .val (.int p1), .val (.int p2), .val (.int p3), .val (.int p4), .val (.int p5), .val (.int (2 : Int32)), .val (.int md), .val (.int ca), .val (.int d0), .val (.int d1), .val (.int d2), .val (.int y2), .val (.ref b1), .unset, .unset] [(.int (2 : Int32))]))
      refine OwnGo.fwd (fun tq' kq' => XS.iconst X40.here hx rfl (hb hby at_116) kq') ?_
      show OwnGo _ _ _ _ (T40.setTop (mkF m 117 #[.val (.int p0), .val (.int p1), .val (.int p2), .val (.int p3), .val (.int p4), .val (.int p5), .val (.int (2 : Int32)), .val (.int md), .val (.int ca), .val (.int d0), .val (.int d1), .val (.int d2), .val (.int y2), .val (.ref b1), .unset, .unset] [(.int (2 : Int32)), (.int (2 : Int32))]))
      have hc117_41 : ¬ ((2 : Int) < (2 : Int)) := by decide
      refine OwnGo.fwd (fun tq' kq' => XS.icmpYes X40.here hx rfl (pc0 := 117) (pc' := 129) rfl (hb hby at_117) rfl (own_bnlt (by decide) (by decide) hc117_41).2.2.2 (by decide) (by decide) kq') ?_
      show OwnGo _ _ _ _ (T40.setTop (mkF m 129 #[.val (.int p0), .val (.int p1), .val (.int p2), .val (.int p3), .val (.int p4), .val (.int p5), .val (.int (2 : Int32)), .val (.int md), .val (.int ca), .val (.int d0), .val (.int d1), .val (.int d2), .val (.int y2), .val (.ref b1), .unset, .unset] []))
      have ef2_0 : f2 0 = d0 := by rw [hf2 0 (by omega), hfx1]
      have eg2_0 : g2 0 = p3 := by rw [hg2 0 (by omega), hgx1]
      have ef2_1 : f2 1 = d1 := by rw [hfx2]
      have eg2_1 : g2 1 = p4 := by rw [hgx2]
      have J216 : ∀ qq : Int32, OwnGo p.tables e below (OwnEnd s (Q0 Z p0 p1 p2 p3 p4 p5 h0 n0) room_1.cells room_1.slots) (T40.setTop (mkF m 216 #[.val (.int p0), .val (.int p1), .val (.int p2), .val (.int p3), .val (.int p4), .val (.int p5), .val (.int (2 : Int32)), .val (.int md), .val (.int ca), .val (.int d0), .val (.int d1), .val (.int d2), .val (.int y2), .val (.ref b1), .val (.int qq), .unset] [])) := by
        intro qq
        show OwnGo _ _ _ _ (T40.setTop (mkF m 216 #[.val (.int p0), .val (.int p1), .val (.int p2), .val (.int p3), .val (.int p4), .val (.int p5), .val (.int (2 : Int32)), .val (.int md), .val (.int ca), .val (.int d0), .val (.int d1), .val (.int d2), .val (.int y2), .val (.ref b1), .val (.int qq), .unset] []))
        refine OwnGo.fwd (fun tq' kq' => XS.iconst X40.here hx rfl (hb hby at_216) kq') ?_
        show OwnGo _ _ _ _ (T40.setTop (mkF m 217 #[.val (.int p0), .val (.int p1), .val (.int p2), .val (.int p3), .val (.int p4), .val (.int p5), .val (.int (2 : Int32)), .val (.int md), .val (.int ca), .val (.int d0), .val (.int d1), .val (.int d2), .val (.int y2), .val (.ref b1), .val (.int qq), .unset] [(.int (0 : Int32))]))
        refine OwnGo.fwd (fun tq' kq' => XS.istore X40.here hx rfl (hb hby at_217) rfl (l' := #[.val (.int p0), .val (.int p1), .val (.int p2), .val (.int p3), .val (.int p4), .val (.int p5), .val (.int (2 : Int32)), .val (.int md), .val (.int ca), .val (.int d0), .val (.int d1), .val (.int d2), .val (.int y2), .val (.ref b1), .val (.int qq), .val (.int (0 : Int32))]) rfl kq') ?_
        show OwnGo _ _ _ _ (T40.setTop (mkF m 219 #[.val (.int p0), .val (.int p1), .val (.int p2), .val (.int p3), .val (.int p4), .val (.int p5), .val (.int (2 : Int32)), .val (.int md), .val (.int ca), .val (.int d0), .val (.int d1), .val (.int d2), .val (.int y2), .val (.ref b1), .val (.int qq), .val (.int (0 : Int32))] []))
        refine OwnGo.fwd (fun tq' kq' => XS.iload X40.here hx rfl (hb hby at_219) rfl kq') ?_
        show OwnGo _ _ _ _ (T40.setTop (mkF m 221 #[.val (.int p0), .val (.int p1), .val (.int p2), .val (.int p3), .val (.int p4), .val (.int p5), .val (.int (2 : Int32)), .val (.int md), .val (.int ca), .val (.int d0), .val (.int d1), .val (.int d2), .val (.int y2), .val (.ref b1), .val (.int qq), .val (.int (0 : Int32))] [(.int (2 : Int32))]))
        have hc221_42 : (0 : Int) < (2 : Int) := by decide
        refine OwnGo.fwd (fun tq' kq' => XS.ifNo X40.here hx rfl (hb hby at_221) rfl ((if0 _ _).trans (own_blt (by decide) (by decide) hc221_42).2.2.2) kq') ?_
        show OwnGo _ _ _ _ (T40.setTop (mkF m 224 #[.val (.int p0), .val (.int p1), .val (.int p2), .val (.int p3), .val (.int p4), .val (.int p5), .val (.int (2 : Int32)), .val (.int md), .val (.int ca), .val (.int d0), .val (.int d1), .val (.int d2), .val (.int y2), .val (.ref b1), .val (.int qq), .val (.int (0 : Int32))] []))
        refine OwnGo.fwd (fun tq' kq' => XS.iload X40.here hx rfl (hb hby at_224) rfl kq') ?_
        show OwnGo _ _ _ _ (T40.setTop (mkF m 226 #[.val (.int p0), .val (.int p1), .val (.int p2), .val (.int p3), .val (.int p4), .val (.int p5), .val (.int (2 : Int32)), .val (.int md), .val (.int ca), .val (.int d0), .val (.int d1), .val (.int d2), .val (.int y2), .val (.ref b1), .val (.int qq), .val (.int (0 : Int32))] [(.int qq)]))
        refine OwnGo.fwd (fun tq' kq' => XS.iload X40.here hx rfl (hb hby at_226) rfl kq') ?_
        show OwnGo _ _ _ _ (T40.setTop (mkF m 228 #[.val (.int p0), .val (.int p1), .val (.int p2), .val (.int p3), .val (.int p4), .val (.int p5), .val (.int (2 : Int32)), .val (.int md), .val (.int ca), .val (.int d0), .val (.int d1), .val (.int d2), .val (.int y2), .val (.ref b1), .val (.int qq), .val (.int (0 : Int32))] [(.int d0), (.int qq)]))
        by_cases hc228_43 : qq.toInt = d0.toInt
        · refine OwnGo.fwd (fun tq' kq' => XS.icmpNo X40.here hx rfl (hb hby at_228) rfl (own_beq rfl rfl hc228_43).2 kq') ?_
          show OwnGo _ _ _ _ (T40.setTop (mkF m 231 #[.val (.int p0), .val (.int p1), .val (.int p2), .val (.int p3), .val (.int p4), .val (.int p5), .val (.int (2 : Int32)), .val (.int md), .val (.int ca), .val (.int d0), .val (.int d1), .val (.int d2), .val (.int y2), .val (.ref b1), .val (.int qq), .val (.int (0 : Int32))] []))
          refine OwnGo.fwd (fun tq' kq' => XS.iloadN X40.here hx rfl (hb hby at_231) rfl kq') ?_
          show OwnGo _ _ _ _ (T40.setTop (mkF m 232 #[.val (.int p0), .val (.int p1), .val (.int p2), .val (.int p3), .val (.int p4), .val (.int p5), .val (.int (2 : Int32)), .val (.int md), .val (.int ca), .val (.int d0), .val (.int d1), .val (.int d2), .val (.int y2), .val (.ref b1), .val (.int qq), .val (.int (0 : Int32))] [(.int p3)]))
          refine OwnGo.fwd (fun tq' kq' => XS.istore X40.here hx rfl (hb hby at_232) rfl (l' := #[.val (.int p0), .val (.int p1), .val (.int p2), .val (.int p3), .val (.int p4), .val (.int p5), .val (.int (2 : Int32)), .val (.int md), .val (.int ca), .val (.int d0), .val (.int d1), .val (.int d2), .val (.int y2), .val (.ref b1), .val (.int qq), .val (.int p3)]) rfl kq') ?_
          show OwnGo _ _ _ _ (T40.setTop (mkF m 234 #[.val (.int p0), .val (.int p1), .val (.int p2), .val (.int p3), .val (.int p4), .val (.int p5), .val (.int (2 : Int32)), .val (.int md), .val (.int ca), .val (.int d0), .val (.int d1), .val (.int d2), .val (.int y2), .val (.ref b1), .val (.int qq), .val (.int p3)] []))
          refine OwnGo.fwd (fun tq' kq' => XS.iload X40.here hx rfl (hb hby at_234) rfl kq') ?_
          show OwnGo _ _ _ _ (T40.setTop (mkF m 236 #[.val (.int p0), .val (.int p1), .val (.int p2), .val (.int p3), .val (.int p4), .val (.int p5), .val (.int (2 : Int32)), .val (.int md), .val (.int ca), .val (.int d0), .val (.int d1), .val (.int d2), .val (.int y2), .val (.ref b1), .val (.int qq), .val (.int p3)] [(.int (2 : Int32))]))
          refine OwnGo.fwd (fun tq' kq' => XS.iconst X40.here hx rfl (hb hby at_236) kq') ?_
          show OwnGo _ _ _ _ (T40.setTop (mkF m 237 #[.val (.int p0), .val (.int p1), .val (.int p2), .val (.int p3), .val (.int p4), .val (.int p5), .val (.int (2 : Int32)), .val (.int md), .val (.int ca), .val (.int d0), .val (.int d1), .val (.int d2), .val (.int y2), .val (.ref b1), .val (.int qq), .val (.int p3)] [(.int (1 : Int32)), (.int (2 : Int32))]))
          have hc237_44 : (1 : Int) < (2 : Int) := by decide
          refine OwnGo.fwd (fun tq' kq' => XS.icmpNo X40.here hx rfl (hb hby at_237) rfl (own_blt (by decide) (by decide) hc237_44).2.2.2 kq') ?_
          show OwnGo _ _ _ _ (T40.setTop (mkF m 240 #[.val (.int p0), .val (.int p1), .val (.int p2), .val (.int p3), .val (.int p4), .val (.int p5), .val (.int (2 : Int32)), .val (.int md), .val (.int ca), .val (.int d0), .val (.int d1), .val (.int d2), .val (.int y2), .val (.ref b1), .val (.int qq), .val (.int p3)] []))
          refine OwnGo.fwd (fun tq' kq' => XS.iload X40.here hx rfl (hb hby at_240) rfl kq') ?_
          show OwnGo _ _ _ _ (T40.setTop (mkF m 242 #[.val (.int p0), .val (.int p1), .val (.int p2), .val (.int p3), .val (.int p4), .val (.int p5), .val (.int (2 : Int32)), .val (.int md), .val (.int ca), .val (.int d0), .val (.int d1), .val (.int d2), .val (.int y2), .val (.ref b1), .val (.int qq), .val (.int p3)] [(.int qq)]))
          refine OwnGo.fwd (fun tq' kq' => XS.iload X40.here hx rfl (hb hby at_242) rfl kq') ?_
          show OwnGo _ _ _ _ (T40.setTop (mkF m 244 #[.val (.int p0), .val (.int p1), .val (.int p2), .val (.int p3), .val (.int p4), .val (.int p5), .val (.int (2 : Int32)), .val (.int md), .val (.int ca), .val (.int d0), .val (.int d1), .val (.int d2), .val (.int y2), .val (.ref b1), .val (.int qq), .val (.int p3)] [(.int d1), (.int qq)]))
          by_cases hc244_45 : qq.toInt = d1.toInt
          · refine OwnGo.fwd (fun tq' kq' => XS.icmpNo X40.here hx rfl (hb hby at_244) rfl (own_beq rfl rfl hc244_45).2 kq') ?_
            show OwnGo _ _ _ _ (T40.setTop (mkF m 247 #[.val (.int p0), .val (.int p1), .val (.int p2), .val (.int p3), .val (.int p4), .val (.int p5), .val (.int (2 : Int32)), .val (.int md), .val (.int ca), .val (.int d0), .val (.int d1), .val (.int d2), .val (.int y2), .val (.ref b1), .val (.int qq), .val (.int p3)] []))
            refine OwnGo.fwd (fun tq' kq' => XS.iload X40.here hx rfl (hb hby at_247) rfl kq') ?_
            show OwnGo _ _ _ _ (T40.setTop (mkF m 249 #[.val (.int p0), .val (.int p1), .val (.int p2), .val (.int p3), .val (.int p4), .val (.int p5), .val (.int (2 : Int32)), .val (.int md), .val (.int ca), .val (.int d0), .val (.int d1), .val (.int d2), .val (.int y2), .val (.ref b1), .val (.int qq), .val (.int p3)] [(.int p4)]))
            refine OwnGo.fwd (fun tq' kq' => XS.istore X40.here hx rfl (hb hby at_249) rfl (l' := #[.val (.int p0), .val (.int p1), .val (.int p2), .val (.int p3), .val (.int p4), .val (.int p5), .val (.int (2 : Int32)), .val (.int md), .val (.int ca), .val (.int d0), .val (.int d1), .val (.int d2), .val (.int y2), .val (.ref b1), .val (.int qq), .val (.int p4)]) rfl kq') ?_
            show OwnGo _ _ _ _ (T40.setTop (mkF m 251 #[.val (.int p0), .val (.int p1), .val (.int p2), .val (.int p3), .val (.int p4), .val (.int p5), .val (.int (2 : Int32)), .val (.int md), .val (.int ca), .val (.int d0), .val (.int d1), .val (.int d2), .val (.int y2), .val (.ref b1), .val (.int qq), .val (.int p4)] []))
            refine OwnGo.fwd (fun tq' kq' => XS.iload X40.here hx rfl (hb hby at_251) rfl kq') ?_
            show OwnGo _ _ _ _ (T40.setTop (mkF m 253 #[.val (.int p0), .val (.int p1), .val (.int p2), .val (.int p3), .val (.int p4), .val (.int p5), .val (.int (2 : Int32)), .val (.int md), .val (.int ca), .val (.int d0), .val (.int d1), .val (.int d2), .val (.int y2), .val (.ref b1), .val (.int qq), .val (.int p4)] [(.int (2 : Int32))]))
            refine OwnGo.fwd (fun tq' kq' => XS.iconst X40.here hx rfl (hb hby at_253) kq') ?_
            show OwnGo _ _ _ _ (T40.setTop (mkF m 254 #[.val (.int p0), .val (.int p1), .val (.int p2), .val (.int p3), .val (.int p4), .val (.int p5), .val (.int (2 : Int32)), .val (.int md), .val (.int ca), .val (.int d0), .val (.int d1), .val (.int d2), .val (.int y2), .val (.ref b1), .val (.int qq), .val (.int p4)] [(.int (2 : Int32)), (.int (2 : Int32))]))
            have hc254_46 : ¬ ((2 : Int) < (2 : Int)) := by decide
            refine OwnGo.fwd (fun tq' kq' => XS.icmpYes X40.here hx rfl (pc0 := 254) (pc' := 268) rfl (hb hby at_254) rfl (own_bnlt (by decide) (by decide) hc254_46).2.2.2 (by decide) (by decide) kq') ?_
            show OwnGo _ _ _ _ (T40.setTop (mkF m 268 #[.val (.int p0), .val (.int p1), .val (.int p2), .val (.int p3), .val (.int p4), .val (.int p5), .val (.int (2 : Int32)), .val (.int md), .val (.int ca), .val (.int d0), .val (.int d1), .val (.int d2), .val (.int y2), .val (.ref b1), .val (.int qq), .val (.int p4)] []))
            refine OwnGo.fwd (fun tq' kq' => XS.aload X40.here hx rfl (hb hby at_268) rfl rfl kq') ?_
            show OwnGo _ _ _ _ (T40.setTop (mkF m 270 #[.val (.int p0), .val (.int p1), .val (.int p2), .val (.int p3), .val (.int p4), .val (.int p5), .val (.int (2 : Int32)), .val (.int md), .val (.int ca), .val (.int d0), .val (.int d1), .val (.int d2), .val (.int y2), .val (.ref b1), .val (.int qq), .val (.int p4)] [(.ref b1)]))
            refine OwnGo.fwd (fun tq' kq' => XS.iload X40.here hx rfl (hb hby at_270) rfl kq') ?_
            show OwnGo _ _ _ _ (T40.setTop (mkF m 272 #[.val (.int p0), .val (.int p1), .val (.int p2), .val (.int p3), .val (.int p4), .val (.int p5), .val (.int (2 : Int32)), .val (.int md), .val (.int ca), .val (.int d0), .val (.int d1), .val (.int d2), .val (.int y2), .val (.ref b1), .val (.int qq), .val (.int p4)] [(.int qq), (.ref b1)]))
            obtain ⟨cq47, kq47, q47a, q47b, q47c⟩ := isOf hZ eh40.symm E_b1
            obtain ⟨_, _, ⟨T47, L47, k47, n47⟩, -, X47, ⟨Lc47, hQ47, l47, y47, z47⟩, st47⟩ := X40.virtualBack hx (y := (⟨"com/example/inverse_frequency/inversefrequency/Postings", "frequencyIn", "(I)I"⟩ : MethodName)) (z := (⟨"com/example/inverse_frequency/inversefrequency/Postings", "frequencyIn", "(I)I"⟩ : MethodName)) hown (mvT hZ (hw _ (List.mem_of_getElem? (i := 19) rfl))) (mvT hZ (hw _ (List.mem_of_getElem? (i := 20) rfl))) (notFace_of_selects (args := #[]) (mvT hZ (hw _ (List.mem_of_getElem? (i := 22) rfl)))) (mvT hZ (hw _ (List.mem_of_getElem? (i := 22) rfl))) (mvT hZ (hw _ (List.mem_of_getElem? (i := 21) rfl))) (by decide) (backOf (W := 0) (rm4n2 l Z a0 hw [] b1 da2 fa2 (((0 : Int64) + p3.toInt64) + p4.toInt64) cp2 f2 g2 qq h40 n0 Zs ⟨E_b1, F_documents_b1, F_frequencies_b1, F_size_b1, F_totalFrequency_b1, V_da2, V_fa2, ne_b1_da2, ne_b1_fa2, ne_da2_fa2, g_b1, g_da2, g_fa2⟩ (by omega) (by rw [ef2_0, ef2_1]; exact h01)) hZ (hw _ (List.mem_of_getElem? (i := 23) rfl)) (hw _ (List.mem_of_getElem? (i := 3) rfl)) (by decide) (by decide)) q47a q47c (g := (mkF m 272 #[.val (.int p0), .val (.int p1), .val (.int p2), .val (.int p3), .val (.int p4), .val (.int p5), .val (.int (2 : Int32)), .val (.int md), .val (.int ca), .val (.int d0), .val (.int d1), .val (.int d2), .val (.int y2), .val (.ref b1), .val (.int qq), .val (.int p4)] [(.int qq), (.ref b1)])) rfl (by rw [hml]; rfl) (Steps.refl _) (argsL := [(.int qq)]) (rest := []) (lenOf pd_3 rfl) rfl (by show 2 * 0 + _ ≤ _; exact Nat.le_of_eq rfl) (hb hby at_272) (fun _ _ => ⟨rfl, eh40.symm, (by decide : 7 + 0 ≤ _), (by decide : 30 + 0 ≤ _)⟩)
            dsimp only [Pt.U, Pt.locs, Pt.cells, Pt.slots] at X47 l47 y47 z47 st47 hQ47
            subst l47 y47 z47
            obtain ⟨N47q, e47, r47, rfl, hr47⟩ := hQ47
            have N := Fr.app N N47q
            refine OwnGo.thru st47 ?_
            show OwnGo _ _ _ _ (T47.setTop (mkF m 275 #[.val (.int p0), .val (.int p1), .val (.int p2), .val (.int p3), .val (.int p4), .val (.int p5), .val (.int (2 : Int32)), .val (.int md), .val (.int ca), .val (.int d0), .val (.int d1), .val (.int d2), .val (.int y2), .val (.ref b1), .val (.int qq), .val (.int p4)] [(.int r47)]))
            refine OwnGo.fwd (fun tq' kq' => XS.iload X47.here hx rfl (hb hby at_275) rfl kq') ?_
            show OwnGo _ _ _ _ (T47.setTop (mkF m 277 #[.val (.int p0), .val (.int p1), .val (.int p2), .val (.int p3), .val (.int p4), .val (.int p5), .val (.int (2 : Int32)), .val (.int md), .val (.int ca), .val (.int d0), .val (.int d1), .val (.int d2), .val (.int y2), .val (.ref b1), .val (.int qq), .val (.int p4)] [(.int p4), (.int r47)]))
            have hc277_48 : r47.toInt = p4.toInt := by
                rcases hr47 with ⟨i, hi, e, hr⟩ | ⟨hall, hr⟩
                · have : i = 0 ∨ i = 1 := by omega
                  rcases this with rfl | rfl
                  · rw [ef2_0] at e; rw [hr, eg2_0] <;> first | rfl | omega
                  · rw [ef2_1] at e; rw [hr, eg2_1] <;> first | rfl | omega
                · have h0a := hall 0 (by decide); rw [ef2_0] at h0a; have h1a := hall 1 (by decide); rw [ef2_1] at h1a; rw [hr] <;> first | rfl | omega
            refine OwnGo.fwd (fun tq' kq' => XS.icmpNo X47.here hx rfl (hb hby at_277) rfl (own_beq rfl rfl hc277_48).2 kq') ?_
            show OwnGo _ _ _ _ (T47.setTop (mkF m 280 #[.val (.int p0), .val (.int p1), .val (.int p2), .val (.int p3), .val (.int p4), .val (.int p5), .val (.int (2 : Int32)), .val (.int md), .val (.int ca), .val (.int d0), .val (.int d1), .val (.int d2), .val (.int y2), .val (.ref b1), .val (.int qq), .val (.int p4)] []))
            refine OwnGo.fwd (fun tq' kq' => XS.iconst X47.here hx rfl (hb hby at_280) kq') ?_
            show OwnGo _ _ _ _ (T47.setTop (mkF m 281 #[.val (.int p0), .val (.int p1), .val (.int p2), .val (.int p3), .val (.int p4), .val (.int p5), .val (.int (2 : Int32)), .val (.int md), .val (.int ca), .val (.int d0), .val (.int d1), .val (.int d2), .val (.int y2), .val (.ref b1), .val (.int qq), .val (.int p4)] [(.int (1 : Int32))]))
            refine OwnGo.fwd (fun tq' kq' => XS.goto X47.here hx rfl (pc0 := 281) (pc' := 285) rfl (hb hby at_281) (by decide) (by decide) kq') ?_
            show OwnGo _ _ _ _ (T47.setTop (mkF m 285 #[.val (.int p0), .val (.int p1), .val (.int p2), .val (.int p3), .val (.int p4), .val (.int p5), .val (.int (2 : Int32)), .val (.int md), .val (.int ca), .val (.int d0), .val (.int d1), .val (.int d2), .val (.int y2), .val (.ref b1), .val (.int qq), .val (.int p4)] [(.int (1 : Int32))]))
            exact own_retZ X47 hlk hx Bd.returns (hb hby at_285) (by decide) (by decide) e47 ⟨rfl, N⟩
          · refine OwnGo.fwd (fun tq' kq' => XS.icmpYes X40.here hx rfl (pc0 := 244) (pc' := 251) rfl (hb hby at_244) rfl (own_bneq rfl rfl hc244_45).2 (by decide) (by decide) kq') ?_
            show OwnGo _ _ _ _ (T40.setTop (mkF m 251 #[.val (.int p0), .val (.int p1), .val (.int p2), .val (.int p3), .val (.int p4), .val (.int p5), .val (.int (2 : Int32)), .val (.int md), .val (.int ca), .val (.int d0), .val (.int d1), .val (.int d2), .val (.int y2), .val (.ref b1), .val (.int qq), .val (.int p3)] []))
            refine OwnGo.fwd (fun tq' kq' => XS.iload X40.here hx rfl (hb hby at_251) rfl kq') ?_
            show OwnGo _ _ _ _ (T40.setTop (mkF m 253 #[.val (.int p0), .val (.int p1), .val (.int p2), .val (.int p3), .val (.int p4), .val (.int p5), .val (.int (2 : Int32)), .val (.int md), .val (.int ca), .val (.int d0), .val (.int d1), .val (.int d2), .val (.int y2), .val (.ref b1), .val (.int qq), .val (.int p3)] [(.int (2 : Int32))]))
            refine OwnGo.fwd (fun tq' kq' => XS.iconst X40.here hx rfl (hb hby at_253) kq') ?_
            show OwnGo _ _ _ _ (T40.setTop (mkF m 254 #[.val (.int p0), .val (.int p1), .val (.int p2), .val (.int p3), .val (.int p4), .val (.int p5), .val (.int (2 : Int32)), .val (.int md), .val (.int ca), .val (.int d0), .val (.int d1), .val (.int d2), .val (.int y2), .val (.ref b1), .val (.int qq), .val (.int p3)] [(.int (2 : Int32)), (.int (2 : Int32))]))
            have hc254_49 : ¬ ((2 : Int) < (2 : Int)) := by decide
            refine OwnGo.fwd (fun tq' kq' => XS.icmpYes X40.here hx rfl (pc0 := 254) (pc' := 268) rfl (hb hby at_254) rfl (own_bnlt (by decide) (by decide) hc254_49).2.2.2 (by decide) (by decide) kq') ?_
            show OwnGo _ _ _ _ (T40.setTop (mkF m 268 #[.val (.int p0), .val (.int p1), .val (.int p2), .val (.int p3), .val (.int p4), .val (.int p5), .val (.int (2 : Int32)), .val (.int md), .val (.int ca), .val (.int d0), .val (.int d1), .val (.int d2), .val (.int y2), .val (.ref b1), .val (.int qq), .val (.int p3)] []))
            refine OwnGo.fwd (fun tq' kq' => XS.aload X40.here hx rfl (hb hby at_268) rfl rfl kq') ?_
            show OwnGo _ _ _ _ (T40.setTop (mkF m 270 #[.val (.int p0), .val (.int p1), .val (.int p2), .val (.int p3), .val (.int p4), .val (.int p5), .val (.int (2 : Int32)), .val (.int md), .val (.int ca), .val (.int d0), .val (.int d1), .val (.int d2), .val (.int y2), .val (.ref b1), .val (.int qq), .val (.int p3)] [(.ref b1)]))
            refine OwnGo.fwd (fun tq' kq' => XS.iload X40.here hx rfl (hb hby at_270) rfl kq') ?_
            show OwnGo _ _ _ _ (T40.setTop (mkF m 272 #[.val (.int p0), .val (.int p1), .val (.int p2), .val (.int p3), .val (.int p4), .val (.int p5), .val (.int (2 : Int32)), .val (.int md), .val (.int ca), .val (.int d0), .val (.int d1), .val (.int d2), .val (.int y2), .val (.ref b1), .val (.int qq), .val (.int p3)] [(.int qq), (.ref b1)]))
            obtain ⟨cq50, kq50, q50a, q50b, q50c⟩ := isOf hZ eh40.symm E_b1
            obtain ⟨_, _, ⟨T50, L50, k50, n50⟩, -, X50, ⟨Lc50, hQ50, l50, y50, z50⟩, st50⟩ := X40.virtualBack hx (y := (⟨"com/example/inverse_frequency/inversefrequency/Postings", "frequencyIn", "(I)I"⟩ : MethodName)) (z := (⟨"com/example/inverse_frequency/inversefrequency/Postings", "frequencyIn", "(I)I"⟩ : MethodName)) hown (mvT hZ (hw _ (List.mem_of_getElem? (i := 19) rfl))) (mvT hZ (hw _ (List.mem_of_getElem? (i := 20) rfl))) (notFace_of_selects (args := #[]) (mvT hZ (hw _ (List.mem_of_getElem? (i := 22) rfl)))) (mvT hZ (hw _ (List.mem_of_getElem? (i := 22) rfl))) (mvT hZ (hw _ (List.mem_of_getElem? (i := 21) rfl))) (by decide) (backOf (W := 0) (rm4n2 l Z a0 hw [] b1 da2 fa2 (((0 : Int64) + p3.toInt64) + p4.toInt64) cp2 f2 g2 qq h40 n0 Zs ⟨E_b1, F_documents_b1, F_frequencies_b1, F_size_b1, F_totalFrequency_b1, V_da2, V_fa2, ne_b1_da2, ne_b1_fa2, ne_da2_fa2, g_b1, g_da2, g_fa2⟩ (by omega) (by rw [ef2_0, ef2_1]; exact h01)) hZ (hw _ (List.mem_of_getElem? (i := 23) rfl)) (hw _ (List.mem_of_getElem? (i := 3) rfl)) (by decide) (by decide)) q50a q50c (g := (mkF m 272 #[.val (.int p0), .val (.int p1), .val (.int p2), .val (.int p3), .val (.int p4), .val (.int p5), .val (.int (2 : Int32)), .val (.int md), .val (.int ca), .val (.int d0), .val (.int d1), .val (.int d2), .val (.int y2), .val (.ref b1), .val (.int qq), .val (.int p3)] [(.int qq), (.ref b1)])) rfl (by rw [hml]; rfl) (Steps.refl _) (argsL := [(.int qq)]) (rest := []) (lenOf pd_3 rfl) rfl (by show 2 * 0 + _ ≤ _; exact Nat.le_of_eq rfl) (hb hby at_272) (fun _ _ => ⟨rfl, eh40.symm, (by decide : 7 + 0 ≤ _), (by decide : 30 + 0 ≤ _)⟩)
            dsimp only [Pt.U, Pt.locs, Pt.cells, Pt.slots] at X50 l50 y50 z50 st50 hQ50
            subst l50 y50 z50
            obtain ⟨N50q, e50, r50, rfl, hr50⟩ := hQ50
            have N := Fr.app N N50q
            refine OwnGo.thru st50 ?_
            show OwnGo _ _ _ _ (T50.setTop (mkF m 275 #[.val (.int p0), .val (.int p1), .val (.int p2), .val (.int p3), .val (.int p4), .val (.int p5), .val (.int (2 : Int32)), .val (.int md), .val (.int ca), .val (.int d0), .val (.int d1), .val (.int d2), .val (.int y2), .val (.ref b1), .val (.int qq), .val (.int p3)] [(.int r50)]))
            refine OwnGo.fwd (fun tq' kq' => XS.iload X50.here hx rfl (hb hby at_275) rfl kq') ?_
            show OwnGo _ _ _ _ (T50.setTop (mkF m 277 #[.val (.int p0), .val (.int p1), .val (.int p2), .val (.int p3), .val (.int p4), .val (.int p5), .val (.int (2 : Int32)), .val (.int md), .val (.int ca), .val (.int d0), .val (.int d1), .val (.int d2), .val (.int y2), .val (.ref b1), .val (.int qq), .val (.int p3)] [(.int p3), (.int r50)]))
            have hc277_51 : r50.toInt = p3.toInt := by
                rcases hr50 with ⟨i, hi, e, hr⟩ | ⟨hall, hr⟩
                · have : i = 0 ∨ i = 1 := by omega
                  rcases this with rfl | rfl
                  · rw [ef2_0] at e; rw [hr, eg2_0] <;> first | rfl | omega
                  · rw [ef2_1] at e; rw [hr, eg2_1] <;> first | rfl | omega
                · have h0a := hall 0 (by decide); rw [ef2_0] at h0a; have h1a := hall 1 (by decide); rw [ef2_1] at h1a; rw [hr] <;> first | rfl | omega
            refine OwnGo.fwd (fun tq' kq' => XS.icmpNo X50.here hx rfl (hb hby at_277) rfl (own_beq rfl rfl hc277_51).2 kq') ?_
            show OwnGo _ _ _ _ (T50.setTop (mkF m 280 #[.val (.int p0), .val (.int p1), .val (.int p2), .val (.int p3), .val (.int p4), .val (.int p5), .val (.int (2 : Int32)), .val (.int md), .val (.int ca), .val (.int d0), .val (.int d1), .val (.int d2), .val (.int y2), .val (.ref b1), .val (.int qq), .val (.int p3)] []))
            refine OwnGo.fwd (fun tq' kq' => XS.iconst X50.here hx rfl (hb hby at_280) kq') ?_
            show OwnGo _ _ _ _ (T50.setTop (mkF m 281 #[.val (.int p0), .val (.int p1), .val (.int p2), .val (.int p3), .val (.int p4), .val (.int p5), .val (.int (2 : Int32)), .val (.int md), .val (.int ca), .val (.int d0), .val (.int d1), .val (.int d2), .val (.int y2), .val (.ref b1), .val (.int qq), .val (.int p3)] [(.int (1 : Int32))]))
            refine OwnGo.fwd (fun tq' kq' => XS.goto X50.here hx rfl (pc0 := 281) (pc' := 285) rfl (hb hby at_281) (by decide) (by decide) kq') ?_
            show OwnGo _ _ _ _ (T50.setTop (mkF m 285 #[.val (.int p0), .val (.int p1), .val (.int p2), .val (.int p3), .val (.int p4), .val (.int p5), .val (.int (2 : Int32)), .val (.int md), .val (.int ca), .val (.int d0), .val (.int d1), .val (.int d2), .val (.int y2), .val (.ref b1), .val (.int qq), .val (.int p3)] [(.int (1 : Int32))]))
            exact own_retZ X50 hlk hx Bd.returns (hb hby at_285) (by decide) (by decide) e50 ⟨rfl, N⟩
        · refine OwnGo.fwd (fun tq' kq' => XS.icmpYes X40.here hx rfl (pc0 := 228) (pc' := 234) rfl (hb hby at_228) rfl (own_bneq rfl rfl hc228_43).2 (by decide) (by decide) kq') ?_
          show OwnGo _ _ _ _ (T40.setTop (mkF m 234 #[.val (.int p0), .val (.int p1), .val (.int p2), .val (.int p3), .val (.int p4), .val (.int p5), .val (.int (2 : Int32)), .val (.int md), .val (.int ca), .val (.int d0), .val (.int d1), .val (.int d2), .val (.int y2), .val (.ref b1), .val (.int qq), .val (.int (0 : Int32))] []))
          refine OwnGo.fwd (fun tq' kq' => XS.iload X40.here hx rfl (hb hby at_234) rfl kq') ?_
          show OwnGo _ _ _ _ (T40.setTop (mkF m 236 #[.val (.int p0), .val (.int p1), .val (.int p2), .val (.int p3), .val (.int p4), .val (.int p5), .val (.int (2 : Int32)), .val (.int md), .val (.int ca), .val (.int d0), .val (.int d1), .val (.int d2), .val (.int y2), .val (.ref b1), .val (.int qq), .val (.int (0 : Int32))] [(.int (2 : Int32))]))
          refine OwnGo.fwd (fun tq' kq' => XS.iconst X40.here hx rfl (hb hby at_236) kq') ?_
          show OwnGo _ _ _ _ (T40.setTop (mkF m 237 #[.val (.int p0), .val (.int p1), .val (.int p2), .val (.int p3), .val (.int p4), .val (.int p5), .val (.int (2 : Int32)), .val (.int md), .val (.int ca), .val (.int d0), .val (.int d1), .val (.int d2), .val (.int y2), .val (.ref b1), .val (.int qq), .val (.int (0 : Int32))] [(.int (1 : Int32)), (.int (2 : Int32))]))
          have hc237_52 : (1 : Int) < (2 : Int) := by decide
          refine OwnGo.fwd (fun tq' kq' => XS.icmpNo X40.here hx rfl (hb hby at_237) rfl (own_blt (by decide) (by decide) hc237_52).2.2.2 kq') ?_
          show OwnGo _ _ _ _ (T40.setTop (mkF m 240 #[.val (.int p0), .val (.int p1), .val (.int p2), .val (.int p3), .val (.int p4), .val (.int p5), .val (.int (2 : Int32)), .val (.int md), .val (.int ca), .val (.int d0), .val (.int d1), .val (.int d2), .val (.int y2), .val (.ref b1), .val (.int qq), .val (.int (0 : Int32))] []))
          refine OwnGo.fwd (fun tq' kq' => XS.iload X40.here hx rfl (hb hby at_240) rfl kq') ?_
          show OwnGo _ _ _ _ (T40.setTop (mkF m 242 #[.val (.int p0), .val (.int p1), .val (.int p2), .val (.int p3), .val (.int p4), .val (.int p5), .val (.int (2 : Int32)), .val (.int md), .val (.int ca), .val (.int d0), .val (.int d1), .val (.int d2), .val (.int y2), .val (.ref b1), .val (.int qq), .val (.int (0 : Int32))] [(.int qq)]))
          refine OwnGo.fwd (fun tq' kq' => XS.iload X40.here hx rfl (hb hby at_242) rfl kq') ?_
          show OwnGo _ _ _ _ (T40.setTop (mkF m 244 #[.val (.int p0), .val (.int p1), .val (.int p2), .val (.int p3), .val (.int p4), .val (.int p5), .val (.int (2 : Int32)), .val (.int md), .val (.int ca), .val (.int d0), .val (.int d1), .val (.int d2), .val (.int y2), .val (.ref b1), .val (.int qq), .val (.int (0 : Int32))] [(.int d1), (.int qq)]))
          by_cases hc244_53 : qq.toInt = d1.toInt
          · refine OwnGo.fwd (fun tq' kq' => XS.icmpNo X40.here hx rfl (hb hby at_244) rfl (own_beq rfl rfl hc244_53).2 kq') ?_
            show OwnGo _ _ _ _ (T40.setTop (mkF m 247 #[.val (.int p0), .val (.int p1), .val (.int p2), .val (.int p3), .val (.int p4), .val (.int p5), .val (.int (2 : Int32)), .val (.int md), .val (.int ca), .val (.int d0), .val (.int d1), .val (.int d2), .val (.int y2), .val (.ref b1), .val (.int qq), .val (.int (0 : Int32))] []))
            refine OwnGo.fwd (fun tq' kq' => XS.iload X40.here hx rfl (hb hby at_247) rfl kq') ?_
            show OwnGo _ _ _ _ (T40.setTop (mkF m 249 #[.val (.int p0), .val (.int p1), .val (.int p2), .val (.int p3), .val (.int p4), .val (.int p5), .val (.int (2 : Int32)), .val (.int md), .val (.int ca), .val (.int d0), .val (.int d1), .val (.int d2), .val (.int y2), .val (.ref b1), .val (.int qq), .val (.int (0 : Int32))] [(.int p4)]))
            refine OwnGo.fwd (fun tq' kq' => XS.istore X40.here hx rfl (hb hby at_249) rfl (l' := #[.val (.int p0), .val (.int p1), .val (.int p2), .val (.int p3), .val (.int p4), .val (.int p5), .val (.int (2 : Int32)), .val (.int md), .val (.int ca), .val (.int d0), .val (.int d1), .val (.int d2), .val (.int y2), .val (.ref b1), .val (.int qq), .val (.int p4)]) rfl kq') ?_
            show OwnGo _ _ _ _ (T40.setTop (mkF m 251 #[.val (.int p0), .val (.int p1), .val (.int p2), .val (.int p3), .val (.int p4), .val (.int p5), .val (.int (2 : Int32)), .val (.int md), .val (.int ca), .val (.int d0), .val (.int d1), .val (.int d2), .val (.int y2), .val (.ref b1), .val (.int qq), .val (.int p4)] []))
            refine OwnGo.fwd (fun tq' kq' => XS.iload X40.here hx rfl (hb hby at_251) rfl kq') ?_
            show OwnGo _ _ _ _ (T40.setTop (mkF m 253 #[.val (.int p0), .val (.int p1), .val (.int p2), .val (.int p3), .val (.int p4), .val (.int p5), .val (.int (2 : Int32)), .val (.int md), .val (.int ca), .val (.int d0), .val (.int d1), .val (.int d2), .val (.int y2), .val (.ref b1), .val (.int qq), .val (.int p4)] [(.int (2 : Int32))]))
            refine OwnGo.fwd (fun tq' kq' => XS.iconst X40.here hx rfl (hb hby at_253) kq') ?_
            show OwnGo _ _ _ _ (T40.setTop (mkF m 254 #[.val (.int p0), .val (.int p1), .val (.int p2), .val (.int p3), .val (.int p4), .val (.int p5), .val (.int (2 : Int32)), .val (.int md), .val (.int ca), .val (.int d0), .val (.int d1), .val (.int d2), .val (.int y2), .val (.ref b1), .val (.int qq), .val (.int p4)] [(.int (2 : Int32)), (.int (2 : Int32))]))
            have hc254_54 : ¬ ((2 : Int) < (2 : Int)) := by decide
            refine OwnGo.fwd (fun tq' kq' => XS.icmpYes X40.here hx rfl (pc0 := 254) (pc' := 268) rfl (hb hby at_254) rfl (own_bnlt (by decide) (by decide) hc254_54).2.2.2 (by decide) (by decide) kq') ?_
            show OwnGo _ _ _ _ (T40.setTop (mkF m 268 #[.val (.int p0), .val (.int p1), .val (.int p2), .val (.int p3), .val (.int p4), .val (.int p5), .val (.int (2 : Int32)), .val (.int md), .val (.int ca), .val (.int d0), .val (.int d1), .val (.int d2), .val (.int y2), .val (.ref b1), .val (.int qq), .val (.int p4)] []))
            refine OwnGo.fwd (fun tq' kq' => XS.aload X40.here hx rfl (hb hby at_268) rfl rfl kq') ?_
            show OwnGo _ _ _ _ (T40.setTop (mkF m 270 #[.val (.int p0), .val (.int p1), .val (.int p2), .val (.int p3), .val (.int p4), .val (.int p5), .val (.int (2 : Int32)), .val (.int md), .val (.int ca), .val (.int d0), .val (.int d1), .val (.int d2), .val (.int y2), .val (.ref b1), .val (.int qq), .val (.int p4)] [(.ref b1)]))
            refine OwnGo.fwd (fun tq' kq' => XS.iload X40.here hx rfl (hb hby at_270) rfl kq') ?_
            show OwnGo _ _ _ _ (T40.setTop (mkF m 272 #[.val (.int p0), .val (.int p1), .val (.int p2), .val (.int p3), .val (.int p4), .val (.int p5), .val (.int (2 : Int32)), .val (.int md), .val (.int ca), .val (.int d0), .val (.int d1), .val (.int d2), .val (.int y2), .val (.ref b1), .val (.int qq), .val (.int p4)] [(.int qq), (.ref b1)]))
            obtain ⟨cq55, kq55, q55a, q55b, q55c⟩ := isOf hZ eh40.symm E_b1
            obtain ⟨_, _, ⟨T55, L55, k55, n55⟩, -, X55, ⟨Lc55, hQ55, l55, y55, z55⟩, st55⟩ := X40.virtualBack hx (y := (⟨"com/example/inverse_frequency/inversefrequency/Postings", "frequencyIn", "(I)I"⟩ : MethodName)) (z := (⟨"com/example/inverse_frequency/inversefrequency/Postings", "frequencyIn", "(I)I"⟩ : MethodName)) hown (mvT hZ (hw _ (List.mem_of_getElem? (i := 19) rfl))) (mvT hZ (hw _ (List.mem_of_getElem? (i := 20) rfl))) (notFace_of_selects (args := #[]) (mvT hZ (hw _ (List.mem_of_getElem? (i := 22) rfl)))) (mvT hZ (hw _ (List.mem_of_getElem? (i := 22) rfl))) (mvT hZ (hw _ (List.mem_of_getElem? (i := 21) rfl))) (by decide) (backOf (W := 0) (rm4n2 l Z a0 hw [] b1 da2 fa2 (((0 : Int64) + p3.toInt64) + p4.toInt64) cp2 f2 g2 qq h40 n0 Zs ⟨E_b1, F_documents_b1, F_frequencies_b1, F_size_b1, F_totalFrequency_b1, V_da2, V_fa2, ne_b1_da2, ne_b1_fa2, ne_da2_fa2, g_b1, g_da2, g_fa2⟩ (by omega) (by rw [ef2_0, ef2_1]; exact h01)) hZ (hw _ (List.mem_of_getElem? (i := 23) rfl)) (hw _ (List.mem_of_getElem? (i := 3) rfl)) (by decide) (by decide)) q55a q55c (g := (mkF m 272 #[.val (.int p0), .val (.int p1), .val (.int p2), .val (.int p3), .val (.int p4), .val (.int p5), .val (.int (2 : Int32)), .val (.int md), .val (.int ca), .val (.int d0), .val (.int d1), .val (.int d2), .val (.int y2), .val (.ref b1), .val (.int qq), .val (.int p4)] [(.int qq), (.ref b1)])) rfl (by rw [hml]; rfl) (Steps.refl _) (argsL := [(.int qq)]) (rest := []) (lenOf pd_3 rfl) rfl (by show 2 * 0 + _ ≤ _; exact Nat.le_of_eq rfl) (hb hby at_272) (fun _ _ => ⟨rfl, eh40.symm, (by decide : 7 + 0 ≤ _), (by decide : 30 + 0 ≤ _)⟩)
            dsimp only [Pt.U, Pt.locs, Pt.cells, Pt.slots] at X55 l55 y55 z55 st55 hQ55
            subst l55 y55 z55
            obtain ⟨N55q, e55, r55, rfl, hr55⟩ := hQ55
            have N := Fr.app N N55q
            refine OwnGo.thru st55 ?_
            show OwnGo _ _ _ _ (T55.setTop (mkF m 275 #[.val (.int p0), .val (.int p1), .val (.int p2), .val (.int p3), .val (.int p4), .val (.int p5), .val (.int (2 : Int32)), .val (.int md), .val (.int ca), .val (.int d0), .val (.int d1), .val (.int d2), .val (.int y2), .val (.ref b1), .val (.int qq), .val (.int p4)] [(.int r55)]))
            refine OwnGo.fwd (fun tq' kq' => XS.iload X55.here hx rfl (hb hby at_275) rfl kq') ?_
            show OwnGo _ _ _ _ (T55.setTop (mkF m 277 #[.val (.int p0), .val (.int p1), .val (.int p2), .val (.int p3), .val (.int p4), .val (.int p5), .val (.int (2 : Int32)), .val (.int md), .val (.int ca), .val (.int d0), .val (.int d1), .val (.int d2), .val (.int y2), .val (.ref b1), .val (.int qq), .val (.int p4)] [(.int p4), (.int r55)]))
            have hc277_56 : r55.toInt = p4.toInt := by
                rcases hr55 with ⟨i, hi, e, hr⟩ | ⟨hall, hr⟩
                · have : i = 0 ∨ i = 1 := by omega
                  rcases this with rfl | rfl
                  · rw [ef2_0] at e; rw [hr, eg2_0] <;> first | rfl | omega
                  · rw [ef2_1] at e; rw [hr, eg2_1] <;> first | rfl | omega
                · have h0a := hall 0 (by decide); rw [ef2_0] at h0a; have h1a := hall 1 (by decide); rw [ef2_1] at h1a; rw [hr] <;> first | rfl | omega
            refine OwnGo.fwd (fun tq' kq' => XS.icmpNo X55.here hx rfl (hb hby at_277) rfl (own_beq rfl rfl hc277_56).2 kq') ?_
            show OwnGo _ _ _ _ (T55.setTop (mkF m 280 #[.val (.int p0), .val (.int p1), .val (.int p2), .val (.int p3), .val (.int p4), .val (.int p5), .val (.int (2 : Int32)), .val (.int md), .val (.int ca), .val (.int d0), .val (.int d1), .val (.int d2), .val (.int y2), .val (.ref b1), .val (.int qq), .val (.int p4)] []))
            refine OwnGo.fwd (fun tq' kq' => XS.iconst X55.here hx rfl (hb hby at_280) kq') ?_
            show OwnGo _ _ _ _ (T55.setTop (mkF m 281 #[.val (.int p0), .val (.int p1), .val (.int p2), .val (.int p3), .val (.int p4), .val (.int p5), .val (.int (2 : Int32)), .val (.int md), .val (.int ca), .val (.int d0), .val (.int d1), .val (.int d2), .val (.int y2), .val (.ref b1), .val (.int qq), .val (.int p4)] [(.int (1 : Int32))]))
            refine OwnGo.fwd (fun tq' kq' => XS.goto X55.here hx rfl (pc0 := 281) (pc' := 285) rfl (hb hby at_281) (by decide) (by decide) kq') ?_
            show OwnGo _ _ _ _ (T55.setTop (mkF m 285 #[.val (.int p0), .val (.int p1), .val (.int p2), .val (.int p3), .val (.int p4), .val (.int p5), .val (.int (2 : Int32)), .val (.int md), .val (.int ca), .val (.int d0), .val (.int d1), .val (.int d2), .val (.int y2), .val (.ref b1), .val (.int qq), .val (.int p4)] [(.int (1 : Int32))]))
            exact own_retZ X55 hlk hx Bd.returns (hb hby at_285) (by decide) (by decide) e55 ⟨rfl, N⟩
          · refine OwnGo.fwd (fun tq' kq' => XS.icmpYes X40.here hx rfl (pc0 := 244) (pc' := 251) rfl (hb hby at_244) rfl (own_bneq rfl rfl hc244_53).2 (by decide) (by decide) kq') ?_
            show OwnGo _ _ _ _ (T40.setTop (mkF m 251 #[.val (.int p0), .val (.int p1), .val (.int p2), .val (.int p3), .val (.int p4), .val (.int p5), .val (.int (2 : Int32)), .val (.int md), .val (.int ca), .val (.int d0), .val (.int d1), .val (.int d2), .val (.int y2), .val (.ref b1), .val (.int qq), .val (.int (0 : Int32))] []))
            refine OwnGo.fwd (fun tq' kq' => XS.iload X40.here hx rfl (hb hby at_251) rfl kq') ?_
            show OwnGo _ _ _ _ (T40.setTop (mkF m 253 #[.val (.int p0), .val (.int p1), .val (.int p2), .val (.int p3), .val (.int p4), .val (.int p5), .val (.int (2 : Int32)), .val (.int md), .val (.int ca), .val (.int d0), .val (.int d1), .val (.int d2), .val (.int y2), .val (.ref b1), .val (.int qq), .val (.int (0 : Int32))] [(.int (2 : Int32))]))
            refine OwnGo.fwd (fun tq' kq' => XS.iconst X40.here hx rfl (hb hby at_253) kq') ?_
            show OwnGo _ _ _ _ (T40.setTop (mkF m 254 #[.val (.int p0), .val (.int p1), .val (.int p2), .val (.int p3), .val (.int p4), .val (.int p5), .val (.int (2 : Int32)), .val (.int md), .val (.int ca), .val (.int d0), .val (.int d1), .val (.int d2), .val (.int y2), .val (.ref b1), .val (.int qq), .val (.int (0 : Int32))] [(.int (2 : Int32)), (.int (2 : Int32))]))
            have hc254_57 : ¬ ((2 : Int) < (2 : Int)) := by decide
            refine OwnGo.fwd (fun tq' kq' => XS.icmpYes X40.here hx rfl (pc0 := 254) (pc' := 268) rfl (hb hby at_254) rfl (own_bnlt (by decide) (by decide) hc254_57).2.2.2 (by decide) (by decide) kq') ?_
            show OwnGo _ _ _ _ (T40.setTop (mkF m 268 #[.val (.int p0), .val (.int p1), .val (.int p2), .val (.int p3), .val (.int p4), .val (.int p5), .val (.int (2 : Int32)), .val (.int md), .val (.int ca), .val (.int d0), .val (.int d1), .val (.int d2), .val (.int y2), .val (.ref b1), .val (.int qq), .val (.int (0 : Int32))] []))
            refine OwnGo.fwd (fun tq' kq' => XS.aload X40.here hx rfl (hb hby at_268) rfl rfl kq') ?_
            show OwnGo _ _ _ _ (T40.setTop (mkF m 270 #[.val (.int p0), .val (.int p1), .val (.int p2), .val (.int p3), .val (.int p4), .val (.int p5), .val (.int (2 : Int32)), .val (.int md), .val (.int ca), .val (.int d0), .val (.int d1), .val (.int d2), .val (.int y2), .val (.ref b1), .val (.int qq), .val (.int (0 : Int32))] [(.ref b1)]))
            refine OwnGo.fwd (fun tq' kq' => XS.iload X40.here hx rfl (hb hby at_270) rfl kq') ?_
            show OwnGo _ _ _ _ (T40.setTop (mkF m 272 #[.val (.int p0), .val (.int p1), .val (.int p2), .val (.int p3), .val (.int p4), .val (.int p5), .val (.int (2 : Int32)), .val (.int md), .val (.int ca), .val (.int d0), .val (.int d1), .val (.int d2), .val (.int y2), .val (.ref b1), .val (.int qq), .val (.int (0 : Int32))] [(.int qq), (.ref b1)]))
            obtain ⟨cq58, kq58, q58a, q58b, q58c⟩ := isOf hZ eh40.symm E_b1
            obtain ⟨_, _, ⟨T58, L58, k58, n58⟩, -, X58, ⟨Lc58, hQ58, l58, y58, z58⟩, st58⟩ := X40.virtualBack hx (y := (⟨"com/example/inverse_frequency/inversefrequency/Postings", "frequencyIn", "(I)I"⟩ : MethodName)) (z := (⟨"com/example/inverse_frequency/inversefrequency/Postings", "frequencyIn", "(I)I"⟩ : MethodName)) hown (mvT hZ (hw _ (List.mem_of_getElem? (i := 19) rfl))) (mvT hZ (hw _ (List.mem_of_getElem? (i := 20) rfl))) (notFace_of_selects (args := #[]) (mvT hZ (hw _ (List.mem_of_getElem? (i := 22) rfl)))) (mvT hZ (hw _ (List.mem_of_getElem? (i := 22) rfl))) (mvT hZ (hw _ (List.mem_of_getElem? (i := 21) rfl))) (by decide) (backOf (W := 0) (rm4n2 l Z a0 hw [] b1 da2 fa2 (((0 : Int64) + p3.toInt64) + p4.toInt64) cp2 f2 g2 qq h40 n0 Zs ⟨E_b1, F_documents_b1, F_frequencies_b1, F_size_b1, F_totalFrequency_b1, V_da2, V_fa2, ne_b1_da2, ne_b1_fa2, ne_da2_fa2, g_b1, g_da2, g_fa2⟩ (by omega) (by rw [ef2_0, ef2_1]; exact h01)) hZ (hw _ (List.mem_of_getElem? (i := 23) rfl)) (hw _ (List.mem_of_getElem? (i := 3) rfl)) (by decide) (by decide)) q58a q58c (g := (mkF m 272 #[.val (.int p0), .val (.int p1), .val (.int p2), .val (.int p3), .val (.int p4), .val (.int p5), .val (.int (2 : Int32)), .val (.int md), .val (.int ca), .val (.int d0), .val (.int d1), .val (.int d2), .val (.int y2), .val (.ref b1), .val (.int qq), .val (.int (0 : Int32))] [(.int qq), (.ref b1)])) rfl (by rw [hml]; rfl) (Steps.refl _) (argsL := [(.int qq)]) (rest := []) (lenOf pd_3 rfl) rfl (by show 2 * 0 + _ ≤ _; exact Nat.le_of_eq rfl) (hb hby at_272) (fun _ _ => ⟨rfl, eh40.symm, (by decide : 7 + 0 ≤ _), (by decide : 30 + 0 ≤ _)⟩)
            dsimp only [Pt.U, Pt.locs, Pt.cells, Pt.slots] at X58 l58 y58 z58 st58 hQ58
            subst l58 y58 z58
            obtain ⟨N58q, e58, r58, rfl, hr58⟩ := hQ58
            have N := Fr.app N N58q
            refine OwnGo.thru st58 ?_
            show OwnGo _ _ _ _ (T58.setTop (mkF m 275 #[.val (.int p0), .val (.int p1), .val (.int p2), .val (.int p3), .val (.int p4), .val (.int p5), .val (.int (2 : Int32)), .val (.int md), .val (.int ca), .val (.int d0), .val (.int d1), .val (.int d2), .val (.int y2), .val (.ref b1), .val (.int qq), .val (.int (0 : Int32))] [(.int r58)]))
            refine OwnGo.fwd (fun tq' kq' => XS.iload X58.here hx rfl (hb hby at_275) rfl kq') ?_
            show OwnGo _ _ _ _ (T58.setTop (mkF m 277 #[.val (.int p0), .val (.int p1), .val (.int p2), .val (.int p3), .val (.int p4), .val (.int p5), .val (.int (2 : Int32)), .val (.int md), .val (.int ca), .val (.int d0), .val (.int d1), .val (.int d2), .val (.int y2), .val (.ref b1), .val (.int qq), .val (.int (0 : Int32))] [(.int (0 : Int32)), (.int r58)]))
            have hc277_59 : r58.toInt = 0 := by
                rcases hr58 with ⟨i, hi, e, hr⟩ | ⟨hall, hr⟩
                · have : i = 0 ∨ i = 1 := by omega
                  rcases this with rfl | rfl
                  · rw [ef2_0] at e; rw [hr, eg2_0] <;> first | rfl | omega
                  · rw [ef2_1] at e; rw [hr, eg2_1] <;> first | rfl | omega
                · have h0a := hall 0 (by decide); rw [ef2_0] at h0a; have h1a := hall 1 (by decide); rw [ef2_1] at h1a; rw [hr] <;> first | rfl | omega
            refine OwnGo.fwd (fun tq' kq' => XS.icmpNo X58.here hx rfl (hb hby at_277) rfl (own_beq rfl (by decide) hc277_59).2 kq') ?_
            show OwnGo _ _ _ _ (T58.setTop (mkF m 280 #[.val (.int p0), .val (.int p1), .val (.int p2), .val (.int p3), .val (.int p4), .val (.int p5), .val (.int (2 : Int32)), .val (.int md), .val (.int ca), .val (.int d0), .val (.int d1), .val (.int d2), .val (.int y2), .val (.ref b1), .val (.int qq), .val (.int (0 : Int32))] []))
            refine OwnGo.fwd (fun tq' kq' => XS.iconst X58.here hx rfl (hb hby at_280) kq') ?_
            show OwnGo _ _ _ _ (T58.setTop (mkF m 281 #[.val (.int p0), .val (.int p1), .val (.int p2), .val (.int p3), .val (.int p4), .val (.int p5), .val (.int (2 : Int32)), .val (.int md), .val (.int ca), .val (.int d0), .val (.int d1), .val (.int d2), .val (.int y2), .val (.ref b1), .val (.int qq), .val (.int (0 : Int32))] [(.int (1 : Int32))]))
            refine OwnGo.fwd (fun tq' kq' => XS.goto X58.here hx rfl (pc0 := 281) (pc' := 285) rfl (hb hby at_281) (by decide) (by decide) kq') ?_
            show OwnGo _ _ _ _ (T58.setTop (mkF m 285 #[.val (.int p0), .val (.int p1), .val (.int p2), .val (.int p3), .val (.int p4), .val (.int p5), .val (.int (2 : Int32)), .val (.int md), .val (.int ca), .val (.int d0), .val (.int d1), .val (.int d2), .val (.int y2), .val (.ref b1), .val (.int qq), .val (.int (0 : Int32))] [(.int (1 : Int32))]))
            exact own_retZ X58 hlk hx Bd.returns (hb hby at_285) (by decide) (by decide) e58 ⟨rfl, N⟩
      refine OwnGo.fwd (fun tq' kq' => XS.iload X40.here hx rfl (hb hby at_129) rfl kq') ?_
      show OwnGo _ _ _ _ (T40.setTop (mkF m 131 #[.val (.int p0), .val (.int p1), .val (.int p2), .val (.int p3), .val (.int p4), .val (.int p5), .val (.int (2 : Int32)), .val (.int md), .val (.int ca), .val (.int d0), .val (.int d1), .val (.int d2), .val (.int y2), .val (.ref b1), .unset, .unset] [(.int md)]))
      by_cases hc131_60 : md.toInt = 0
      · refine OwnGo.fwd (fun tq' kq' => XS.ifNo X40.here hx rfl (hb hby at_131) rfl ((if0 _ _).trans (own_beq rfl (by decide) hc131_60).2) kq') ?_
        show OwnGo _ _ _ _ (T40.setTop (mkF m 134 #[.val (.int p0), .val (.int p1), .val (.int p2), .val (.int p3), .val (.int p4), .val (.int p5), .val (.int (2 : Int32)), .val (.int md), .val (.int ca), .val (.int d0), .val (.int d1), .val (.int d2), .val (.int y2), .val (.ref b1), .unset, .unset] []))
        refine OwnGo.fwd (fun tq' kq' => XS.iload X40.here hx rfl (hb hby at_134) rfl kq') ?_
        show OwnGo _ _ _ _ (T40.setTop (mkF m 136 #[.val (.int p0), .val (.int p1), .val (.int p2), .val (.int p3), .val (.int p4), .val (.int p5), .val (.int (2 : Int32)), .val (.int md), .val (.int ca), .val (.int d0), .val (.int d1), .val (.int d2), .val (.int y2), .val (.ref b1), .unset, .unset] [(.int d0)]))
        refine OwnGo.fwd (fun tq' kq' => XS.istore X40.here hx rfl (hb hby at_136) rfl (l' := #[.val (.int p0), .val (.int p1), .val (.int p2), .val (.int p3), .val (.int p4), .val (.int p5), .val (.int (2 : Int32)), .val (.int md), .val (.int ca), .val (.int d0), .val (.int d1), .val (.int d2), .val (.int y2), .val (.ref b1), .val (.int d0), .unset]) rfl kq') ?_
        show OwnGo _ _ _ _ (T40.setTop (mkF m 138 #[.val (.int p0), .val (.int p1), .val (.int p2), .val (.int p3), .val (.int p4), .val (.int p5), .val (.int (2 : Int32)), .val (.int md), .val (.int ca), .val (.int d0), .val (.int d1), .val (.int d2), .val (.int y2), .val (.ref b1), .val (.int d0), .unset] []))
        refine OwnGo.fwd (fun tq' kq' => XS.goto X40.here hx rfl (pc0 := 138) (pc' := 216) rfl (hb hby at_138) (by decide) (by decide) kq') ?_
        show OwnGo _ _ _ _ (T40.setTop (mkF m 216 #[.val (.int p0), .val (.int p1), .val (.int p2), .val (.int p3), .val (.int p4), .val (.int p5), .val (.int (2 : Int32)), .val (.int md), .val (.int ca), .val (.int d0), .val (.int d1), .val (.int d2), .val (.int y2), .val (.ref b1), .val (.int d0), .unset] []))
        exact J216 _
      · refine OwnGo.fwd (fun tq' kq' => XS.ifYes X40.here hx rfl (pc0 := 131) (pc' := 141) rfl (hb hby at_131) rfl ((if0 _ _).trans (own_bneq rfl (by decide) hc131_60).2) (by decide) (by decide) kq') ?_
        show OwnGo _ _ _ _ (T40.setTop (mkF m 141 #[.val (.int p0), .val (.int p1), .val (.int p2), .val (.int p3), .val (.int p4), .val (.int p5), .val (.int (2 : Int32)), .val (.int md), .val (.int ca), .val (.int d0), .val (.int d1), .val (.int d2), .val (.int y2), .val (.ref b1), .unset, .unset] []))
        refine OwnGo.fwd (fun tq' kq' => XS.iload X40.here hx rfl (hb hby at_141) rfl kq') ?_
        show OwnGo _ _ _ _ (T40.setTop (mkF m 143 #[.val (.int p0), .val (.int p1), .val (.int p2), .val (.int p3), .val (.int p4), .val (.int p5), .val (.int (2 : Int32)), .val (.int md), .val (.int ca), .val (.int d0), .val (.int d1), .val (.int d2), .val (.int y2), .val (.ref b1), .unset, .unset] [(.int md)]))
        refine OwnGo.fwd (fun tq' kq' => XS.iconst X40.here hx rfl (hb hby at_143) kq') ?_
        show OwnGo _ _ _ _ (T40.setTop (mkF m 144 #[.val (.int p0), .val (.int p1), .val (.int p2), .val (.int p3), .val (.int p4), .val (.int p5), .val (.int (2 : Int32)), .val (.int md), .val (.int ca), .val (.int d0), .val (.int d1), .val (.int d2), .val (.int y2), .val (.ref b1), .unset, .unset] [(.int (1 : Int32)), (.int md)]))
        by_cases hc144_61 : md.toInt = 1
        · refine OwnGo.fwd (fun tq' kq' => XS.icmpNo X40.here hx rfl (hb hby at_144) rfl (own_beq rfl (by decide) hc144_61).2 kq') ?_
          show OwnGo _ _ _ _ (T40.setTop (mkF m 147 #[.val (.int p0), .val (.int p1), .val (.int p2), .val (.int p3), .val (.int p4), .val (.int p5), .val (.int (2 : Int32)), .val (.int md), .val (.int ca), .val (.int d0), .val (.int d1), .val (.int d2), .val (.int y2), .val (.ref b1), .unset, .unset] []))
          refine OwnGo.fwd (fun tq' kq' => XS.iload X40.here hx rfl (hb hby at_147) rfl kq') ?_
          show OwnGo _ _ _ _ (T40.setTop (mkF m 149 #[.val (.int p0), .val (.int p1), .val (.int p2), .val (.int p3), .val (.int p4), .val (.int p5), .val (.int (2 : Int32)), .val (.int md), .val (.int ca), .val (.int d0), .val (.int d1), .val (.int d2), .val (.int y2), .val (.ref b1), .unset, .unset] [(.int d1)]))
          refine OwnGo.fwd (fun tq' kq' => XS.istore X40.here hx rfl (hb hby at_149) rfl (l' := #[.val (.int p0), .val (.int p1), .val (.int p2), .val (.int p3), .val (.int p4), .val (.int p5), .val (.int (2 : Int32)), .val (.int md), .val (.int ca), .val (.int d0), .val (.int d1), .val (.int d2), .val (.int y2), .val (.ref b1), .val (.int d1), .unset]) rfl kq') ?_
          show OwnGo _ _ _ _ (T40.setTop (mkF m 151 #[.val (.int p0), .val (.int p1), .val (.int p2), .val (.int p3), .val (.int p4), .val (.int p5), .val (.int (2 : Int32)), .val (.int md), .val (.int ca), .val (.int d0), .val (.int d1), .val (.int d2), .val (.int y2), .val (.ref b1), .val (.int d1), .unset] []))
          refine OwnGo.fwd (fun tq' kq' => XS.goto X40.here hx rfl (pc0 := 151) (pc' := 216) rfl (hb hby at_151) (by decide) (by decide) kq') ?_
          show OwnGo _ _ _ _ (T40.setTop (mkF m 216 #[.val (.int p0), .val (.int p1), .val (.int p2), .val (.int p3), .val (.int p4), .val (.int p5), .val (.int (2 : Int32)), .val (.int md), .val (.int ca), .val (.int d0), .val (.int d1), .val (.int d2), .val (.int y2), .val (.ref b1), .val (.int d1), .unset] []))
          exact J216 _
        · refine OwnGo.fwd (fun tq' kq' => XS.icmpYes X40.here hx rfl (pc0 := 144) (pc' := 154) rfl (hb hby at_144) rfl (own_bneq rfl (by decide) hc144_61).2 (by decide) (by decide) kq') ?_
          show OwnGo _ _ _ _ (T40.setTop (mkF m 154 #[.val (.int p0), .val (.int p1), .val (.int p2), .val (.int p3), .val (.int p4), .val (.int p5), .val (.int (2 : Int32)), .val (.int md), .val (.int ca), .val (.int d0), .val (.int d1), .val (.int d2), .val (.int y2), .val (.ref b1), .unset, .unset] []))
          refine OwnGo.fwd (fun tq' kq' => XS.iload X40.here hx rfl (hb hby at_154) rfl kq') ?_
          show OwnGo _ _ _ _ (T40.setTop (mkF m 156 #[.val (.int p0), .val (.int p1), .val (.int p2), .val (.int p3), .val (.int p4), .val (.int p5), .val (.int (2 : Int32)), .val (.int md), .val (.int ca), .val (.int d0), .val (.int d1), .val (.int d2), .val (.int y2), .val (.ref b1), .unset, .unset] [(.int md)]))
          refine OwnGo.fwd (fun tq' kq' => XS.iconst X40.here hx rfl (hb hby at_156) kq') ?_
          show OwnGo _ _ _ _ (T40.setTop (mkF m 157 #[.val (.int p0), .val (.int p1), .val (.int p2), .val (.int p3), .val (.int p4), .val (.int p5), .val (.int (2 : Int32)), .val (.int md), .val (.int ca), .val (.int d0), .val (.int d1), .val (.int d2), .val (.int y2), .val (.ref b1), .unset, .unset] [(.int (2 : Int32)), (.int md)]))
          by_cases hc157_62 : md.toInt = 2
          · refine OwnGo.fwd (fun tq' kq' => XS.icmpNo X40.here hx rfl (hb hby at_157) rfl (own_beq rfl (by decide) hc157_62).2 kq') ?_
            show OwnGo _ _ _ _ (T40.setTop (mkF m 160 #[.val (.int p0), .val (.int p1), .val (.int p2), .val (.int p3), .val (.int p4), .val (.int p5), .val (.int (2 : Int32)), .val (.int md), .val (.int ca), .val (.int d0), .val (.int d1), .val (.int d2), .val (.int y2), .val (.ref b1), .unset, .unset] []))
            refine OwnGo.fwd (fun tq' kq' => XS.iload X40.here hx rfl (hb hby at_160) rfl kq') ?_
            show OwnGo _ _ _ _ (T40.setTop (mkF m 162 #[.val (.int p0), .val (.int p1), .val (.int p2), .val (.int p3), .val (.int p4), .val (.int p5), .val (.int (2 : Int32)), .val (.int md), .val (.int ca), .val (.int d0), .val (.int d1), .val (.int d2), .val (.int y2), .val (.ref b1), .unset, .unset] [(.int d2)]))
            refine OwnGo.fwd (fun tq' kq' => XS.istore X40.here hx rfl (hb hby at_162) rfl (l' := #[.val (.int p0), .val (.int p1), .val (.int p2), .val (.int p3), .val (.int p4), .val (.int p5), .val (.int (2 : Int32)), .val (.int md), .val (.int ca), .val (.int d0), .val (.int d1), .val (.int d2), .val (.int y2), .val (.ref b1), .val (.int d2), .unset]) rfl kq') ?_
            show OwnGo _ _ _ _ (T40.setTop (mkF m 164 #[.val (.int p0), .val (.int p1), .val (.int p2), .val (.int p3), .val (.int p4), .val (.int p5), .val (.int (2 : Int32)), .val (.int md), .val (.int ca), .val (.int d0), .val (.int d1), .val (.int d2), .val (.int y2), .val (.ref b1), .val (.int d2), .unset] []))
            refine OwnGo.fwd (fun tq' kq' => XS.goto X40.here hx rfl (pc0 := 164) (pc' := 216) rfl (hb hby at_164) (by decide) (by decide) kq') ?_
            show OwnGo _ _ _ _ (T40.setTop (mkF m 216 #[.val (.int p0), .val (.int p1), .val (.int p2), .val (.int p3), .val (.int p4), .val (.int p5), .val (.int (2 : Int32)), .val (.int md), .val (.int ca), .val (.int d0), .val (.int d1), .val (.int d2), .val (.int y2), .val (.ref b1), .val (.int d2), .unset] []))
            exact J216 _
          · refine OwnGo.fwd (fun tq' kq' => XS.icmpYes X40.here hx rfl (pc0 := 157) (pc' := 167) rfl (hb hby at_157) rfl (own_bneq rfl (by decide) hc157_62).2 (by decide) (by decide) kq') ?_
            show OwnGo _ _ _ _ (T40.setTop (mkF m 167 #[.val (.int p0), .val (.int p1), .val (.int p2), .val (.int p3), .val (.int p4), .val (.int p5), .val (.int (2 : Int32)), .val (.int md), .val (.int ca), .val (.int d0), .val (.int d1), .val (.int d2), .val (.int y2), .val (.ref b1), .unset, .unset] []))
            refine OwnGo.fwd (fun tq' kq' => XS.iload X40.here hx rfl (hb hby at_167) rfl kq') ?_
            show OwnGo _ _ _ _ (T40.setTop (mkF m 169 #[.val (.int p0), .val (.int p1), .val (.int p2), .val (.int p3), .val (.int p4), .val (.int p5), .val (.int (2 : Int32)), .val (.int md), .val (.int ca), .val (.int d0), .val (.int d1), .val (.int d2), .val (.int y2), .val (.ref b1), .unset, .unset] [(.int md)]))
            refine OwnGo.fwd (fun tq' kq' => XS.iconst X40.here hx rfl (hb hby at_169) kq') ?_
            show OwnGo _ _ _ _ (T40.setTop (mkF m 170 #[.val (.int p0), .val (.int p1), .val (.int p2), .val (.int p3), .val (.int p4), .val (.int p5), .val (.int (2 : Int32)), .val (.int md), .val (.int ca), .val (.int d0), .val (.int d1), .val (.int d2), .val (.int y2), .val (.ref b1), .unset, .unset] [(.int (3 : Int32)), (.int md)]))
            by_cases hc170_63 : md.toInt = 3
            · refine OwnGo.fwd (fun tq' kq' => XS.icmpNo X40.here hx rfl (hb hby at_170) rfl (own_beq rfl (by decide) hc170_63).2 kq') ?_
              show OwnGo _ _ _ _ (T40.setTop (mkF m 173 #[.val (.int p0), .val (.int p1), .val (.int p2), .val (.int p3), .val (.int p4), .val (.int p5), .val (.int (2 : Int32)), .val (.int md), .val (.int ca), .val (.int d0), .val (.int d1), .val (.int d2), .val (.int y2), .val (.ref b1), .unset, .unset] []))
              refine OwnGo.fwd (fun tq' kq' => XS.iload X40.here hx rfl (hb hby at_173) rfl kq') ?_
              show OwnGo _ _ _ _ (T40.setTop (mkF m 175 #[.val (.int p0), .val (.int p1), .val (.int p2), .val (.int p3), .val (.int p4), .val (.int p5), .val (.int (2 : Int32)), .val (.int md), .val (.int ca), .val (.int d0), .val (.int d1), .val (.int d2), .val (.int y2), .val (.ref b1), .unset, .unset] [(.int d0)]))
              refine OwnGo.fwd (fun tq' kq' => XS.iconst X40.here hx rfl (hb hby at_175) kq') ?_
              show OwnGo _ _ _ _ (T40.setTop (mkF m 176 #[.val (.int p0), .val (.int p1), .val (.int p2), .val (.int p3), .val (.int p4), .val (.int p5), .val (.int (2 : Int32)), .val (.int md), .val (.int ca), .val (.int d0), .val (.int d1), .val (.int d2), .val (.int y2), .val (.ref b1), .unset, .unset] [(.int (1 : Int32)), (.int d0)]))
              refine OwnGo.fwd (fun tq' kq' => XS.isub X40.here hx rfl (hb hby at_176) rfl kq') ?_
              show OwnGo _ _ _ _ (T40.setTop (mkF m 177 #[.val (.int p0), .val (.int p1), .val (.int p2), .val (.int p3), .val (.int p4), .val (.int p5), .val (.int (2 : Int32)), .val (.int md), .val (.int ca), .val (.int d0), .val (.int d1), .val (.int d2), .val (.int y2), .val (.ref b1), .unset, .unset] [(.int (d0 - (1 : Int32)))]))
              refine OwnGo.fwd (fun tq' kq' => XS.istore X40.here hx rfl (hb hby at_177) rfl (l' := #[.val (.int p0), .val (.int p1), .val (.int p2), .val (.int p3), .val (.int p4), .val (.int p5), .val (.int (2 : Int32)), .val (.int md), .val (.int ca), .val (.int d0), .val (.int d1), .val (.int d2), .val (.int y2), .val (.ref b1), .val (.int (d0 - (1 : Int32))), .unset]) rfl kq') ?_
              show OwnGo _ _ _ _ (T40.setTop (mkF m 179 #[.val (.int p0), .val (.int p1), .val (.int p2), .val (.int p3), .val (.int p4), .val (.int p5), .val (.int (2 : Int32)), .val (.int md), .val (.int ca), .val (.int d0), .val (.int d1), .val (.int d2), .val (.int y2), .val (.ref b1), .val (.int (d0 - (1 : Int32))), .unset] []))
              refine OwnGo.fwd (fun tq' kq' => XS.goto X40.here hx rfl (pc0 := 179) (pc' := 216) rfl (hb hby at_179) (by decide) (by decide) kq') ?_
              show OwnGo _ _ _ _ (T40.setTop (mkF m 216 #[.val (.int p0), .val (.int p1), .val (.int p2), .val (.int p3), .val (.int p4), .val (.int p5), .val (.int (2 : Int32)), .val (.int md), .val (.int ca), .val (.int d0), .val (.int d1), .val (.int d2), .val (.int y2), .val (.ref b1), .val (.int (d0 - (1 : Int32))), .unset] []))
              exact J216 _
            · refine OwnGo.fwd (fun tq' kq' => XS.icmpYes X40.here hx rfl (pc0 := 170) (pc' := 182) rfl (hb hby at_170) rfl (own_bneq rfl (by decide) hc170_63).2 (by decide) (by decide) kq') ?_
              show OwnGo _ _ _ _ (T40.setTop (mkF m 182 #[.val (.int p0), .val (.int p1), .val (.int p2), .val (.int p3), .val (.int p4), .val (.int p5), .val (.int (2 : Int32)), .val (.int md), .val (.int ca), .val (.int d0), .val (.int d1), .val (.int d2), .val (.int y2), .val (.ref b1), .unset, .unset] []))
              refine OwnGo.fwd (fun tq' kq' => XS.iload X40.here hx rfl (hb hby at_182) rfl kq') ?_
              show OwnGo _ _ _ _ (T40.setTop (mkF m 184 #[.val (.int p0), .val (.int p1), .val (.int p2), .val (.int p3), .val (.int p4), .val (.int p5), .val (.int (2 : Int32)), .val (.int md), .val (.int ca), .val (.int d0), .val (.int d1), .val (.int d2), .val (.int y2), .val (.ref b1), .unset, .unset] [(.int md)]))
              refine OwnGo.fwd (fun tq' kq' => XS.iconst X40.here hx rfl (hb hby at_184) kq') ?_
              show OwnGo _ _ _ _ (T40.setTop (mkF m 185 #[.val (.int p0), .val (.int p1), .val (.int p2), .val (.int p3), .val (.int p4), .val (.int p5), .val (.int (2 : Int32)), .val (.int md), .val (.int ca), .val (.int d0), .val (.int d1), .val (.int d2), .val (.int y2), .val (.ref b1), .unset, .unset] [(.int (4 : Int32)), (.int md)]))
              by_cases hc185_64 : md.toInt = 4
              · refine OwnGo.fwd (fun tq' kq' => XS.icmpNo X40.here hx rfl (hb hby at_185) rfl (own_beq rfl (by decide) hc185_64).2 kq') ?_
                show OwnGo _ _ _ _ (T40.setTop (mkF m 188 #[.val (.int p0), .val (.int p1), .val (.int p2), .val (.int p3), .val (.int p4), .val (.int p5), .val (.int (2 : Int32)), .val (.int md), .val (.int ca), .val (.int d0), .val (.int d1), .val (.int d2), .val (.int y2), .val (.ref b1), .unset, .unset] []))
                refine OwnGo.fwd (fun tq' kq' => XS.iload X40.here hx rfl (hb hby at_188) rfl kq') ?_
                show OwnGo _ _ _ _ (T40.setTop (mkF m 190 #[.val (.int p0), .val (.int p1), .val (.int p2), .val (.int p3), .val (.int p4), .val (.int p5), .val (.int (2 : Int32)), .val (.int md), .val (.int ca), .val (.int d0), .val (.int d1), .val (.int d2), .val (.int y2), .val (.ref b1), .unset, .unset] [(.int d1)]))
                refine OwnGo.fwd (fun tq' kq' => XS.iconst X40.here hx rfl (hb hby at_190) kq') ?_
                show OwnGo _ _ _ _ (T40.setTop (mkF m 191 #[.val (.int p0), .val (.int p1), .val (.int p2), .val (.int p3), .val (.int p4), .val (.int p5), .val (.int (2 : Int32)), .val (.int md), .val (.int ca), .val (.int d0), .val (.int d1), .val (.int d2), .val (.int y2), .val (.ref b1), .unset, .unset] [(.int (1 : Int32)), (.int d1)]))
                refine OwnGo.fwd (fun tq' kq' => XS.isub X40.here hx rfl (hb hby at_191) rfl kq') ?_
                show OwnGo _ _ _ _ (T40.setTop (mkF m 192 #[.val (.int p0), .val (.int p1), .val (.int p2), .val (.int p3), .val (.int p4), .val (.int p5), .val (.int (2 : Int32)), .val (.int md), .val (.int ca), .val (.int d0), .val (.int d1), .val (.int d2), .val (.int y2), .val (.ref b1), .unset, .unset] [(.int (d1 - (1 : Int32)))]))
                refine OwnGo.fwd (fun tq' kq' => XS.istore X40.here hx rfl (hb hby at_192) rfl (l' := #[.val (.int p0), .val (.int p1), .val (.int p2), .val (.int p3), .val (.int p4), .val (.int p5), .val (.int (2 : Int32)), .val (.int md), .val (.int ca), .val (.int d0), .val (.int d1), .val (.int d2), .val (.int y2), .val (.ref b1), .val (.int (d1 - (1 : Int32))), .unset]) rfl kq') ?_
                show OwnGo _ _ _ _ (T40.setTop (mkF m 194 #[.val (.int p0), .val (.int p1), .val (.int p2), .val (.int p3), .val (.int p4), .val (.int p5), .val (.int (2 : Int32)), .val (.int md), .val (.int ca), .val (.int d0), .val (.int d1), .val (.int d2), .val (.int y2), .val (.ref b1), .val (.int (d1 - (1 : Int32))), .unset] []))
                refine OwnGo.fwd (fun tq' kq' => XS.goto X40.here hx rfl (pc0 := 194) (pc' := 216) rfl (hb hby at_194) (by decide) (by decide) kq') ?_
                show OwnGo _ _ _ _ (T40.setTop (mkF m 216 #[.val (.int p0), .val (.int p1), .val (.int p2), .val (.int p3), .val (.int p4), .val (.int p5), .val (.int (2 : Int32)), .val (.int md), .val (.int ca), .val (.int d0), .val (.int d1), .val (.int d2), .val (.int y2), .val (.ref b1), .val (.int (d1 - (1 : Int32))), .unset] []))
                exact J216 _
              · refine OwnGo.fwd (fun tq' kq' => XS.icmpYes X40.here hx rfl (pc0 := 185) (pc' := 197) rfl (hb hby at_185) rfl (own_bneq rfl (by decide) hc185_64).2 (by decide) (by decide) kq') ?_
                show OwnGo _ _ _ _ (T40.setTop (mkF m 197 #[.val (.int p0), .val (.int p1), .val (.int p2), .val (.int p3), .val (.int p4), .val (.int p5), .val (.int (2 : Int32)), .val (.int md), .val (.int ca), .val (.int d0), .val (.int d1), .val (.int d2), .val (.int y2), .val (.ref b1), .unset, .unset] []))
                refine OwnGo.fwd (fun tq' kq' => XS.iload X40.here hx rfl (hb hby at_197) rfl kq') ?_
                show OwnGo _ _ _ _ (T40.setTop (mkF m 199 #[.val (.int p0), .val (.int p1), .val (.int p2), .val (.int p3), .val (.int p4), .val (.int p5), .val (.int (2 : Int32)), .val (.int md), .val (.int ca), .val (.int d0), .val (.int d1), .val (.int d2), .val (.int y2), .val (.ref b1), .unset, .unset] [(.int md)]))
                refine OwnGo.fwd (fun tq' kq' => XS.iconst X40.here hx rfl (hb hby at_199) kq') ?_
                show OwnGo _ _ _ _ (T40.setTop (mkF m 200 #[.val (.int p0), .val (.int p1), .val (.int p2), .val (.int p3), .val (.int p4), .val (.int p5), .val (.int (2 : Int32)), .val (.int md), .val (.int ca), .val (.int d0), .val (.int d1), .val (.int d2), .val (.int y2), .val (.ref b1), .unset, .unset] [(.int (5 : Int32)), (.int md)]))
                by_cases hc200_65 : md.toInt = 5
                · refine OwnGo.fwd (fun tq' kq' => XS.icmpNo X40.here hx rfl (hb hby at_200) rfl (own_beq rfl (by decide) hc200_65).2 kq') ?_
                  show OwnGo _ _ _ _ (T40.setTop (mkF m 203 #[.val (.int p0), .val (.int p1), .val (.int p2), .val (.int p3), .val (.int p4), .val (.int p5), .val (.int (2 : Int32)), .val (.int md), .val (.int ca), .val (.int d0), .val (.int d1), .val (.int d2), .val (.int y2), .val (.ref b1), .unset, .unset] []))
                  refine OwnGo.fwd (fun tq' kq' => XS.iload X40.here hx rfl (hb hby at_203) rfl kq') ?_
                  show OwnGo _ _ _ _ (T40.setTop (mkF m 205 #[.val (.int p0), .val (.int p1), .val (.int p2), .val (.int p3), .val (.int p4), .val (.int p5), .val (.int (2 : Int32)), .val (.int md), .val (.int ca), .val (.int d0), .val (.int d1), .val (.int d2), .val (.int y2), .val (.ref b1), .unset, .unset] [(.int d2)]))
                  refine OwnGo.fwd (fun tq' kq' => XS.iconst X40.here hx rfl (hb hby at_205) kq') ?_
                  show OwnGo _ _ _ _ (T40.setTop (mkF m 206 #[.val (.int p0), .val (.int p1), .val (.int p2), .val (.int p3), .val (.int p4), .val (.int p5), .val (.int (2 : Int32)), .val (.int md), .val (.int ca), .val (.int d0), .val (.int d1), .val (.int d2), .val (.int y2), .val (.ref b1), .unset, .unset] [(.int (1 : Int32)), (.int d2)]))
                  refine OwnGo.fwd (fun tq' kq' => XS.iadd X40.here hx rfl (hb hby at_206) rfl kq') ?_
                  show OwnGo _ _ _ _ (T40.setTop (mkF m 207 #[.val (.int p0), .val (.int p1), .val (.int p2), .val (.int p3), .val (.int p4), .val (.int p5), .val (.int (2 : Int32)), .val (.int md), .val (.int ca), .val (.int d0), .val (.int d1), .val (.int d2), .val (.int y2), .val (.ref b1), .unset, .unset] [(.int (d2 + (1 : Int32)))]))
                  refine OwnGo.fwd (fun tq' kq' => XS.istore X40.here hx rfl (hb hby at_207) rfl (l' := #[.val (.int p0), .val (.int p1), .val (.int p2), .val (.int p3), .val (.int p4), .val (.int p5), .val (.int (2 : Int32)), .val (.int md), .val (.int ca), .val (.int d0), .val (.int d1), .val (.int d2), .val (.int y2), .val (.ref b1), .val (.int (d2 + (1 : Int32))), .unset]) rfl kq') ?_
                  show OwnGo _ _ _ _ (T40.setTop (mkF m 209 #[.val (.int p0), .val (.int p1), .val (.int p2), .val (.int p3), .val (.int p4), .val (.int p5), .val (.int (2 : Int32)), .val (.int md), .val (.int ca), .val (.int d0), .val (.int d1), .val (.int d2), .val (.int y2), .val (.ref b1), .val (.int (d2 + (1 : Int32))), .unset] []))
                  refine OwnGo.fwd (fun tq' kq' => XS.goto X40.here hx rfl (pc0 := 209) (pc' := 216) rfl (hb hby at_209) (by decide) (by decide) kq') ?_
                  show OwnGo _ _ _ _ (T40.setTop (mkF m 216 #[.val (.int p0), .val (.int p1), .val (.int p2), .val (.int p3), .val (.int p4), .val (.int p5), .val (.int (2 : Int32)), .val (.int md), .val (.int ca), .val (.int d0), .val (.int d1), .val (.int d2), .val (.int y2), .val (.ref b1), .val (.int (d2 + (1 : Int32))), .unset] []))
                  exact J216 _
                · refine OwnGo.fwd (fun tq' kq' => XS.icmpYes X40.here hx rfl (pc0 := 200) (pc' := 212) rfl (hb hby at_200) rfl (own_bneq rfl (by decide) hc200_65).2 (by decide) (by decide) kq') ?_
                  show OwnGo _ _ _ _ (T40.setTop (mkF m 212 #[.val (.int p0), .val (.int p1), .val (.int p2), .val (.int p3), .val (.int p4), .val (.int p5), .val (.int (2 : Int32)), .val (.int md), .val (.int ca), .val (.int d0), .val (.int d1), .val (.int d2), .val (.int y2), .val (.ref b1), .unset, .unset] []))
                  refine OwnGo.fwd (fun tq' kq' => XS.iload X40.here hx rfl (hb hby at_212) rfl kq') ?_
                  show OwnGo _ _ _ _ (T40.setTop (mkF m 214 #[.val (.int p0), .val (.int p1), .val (.int p2), .val (.int p3), .val (.int p4), .val (.int p5), .val (.int (2 : Int32)), .val (.int md), .val (.int ca), .val (.int d0), .val (.int d1), .val (.int d2), .val (.int y2), .val (.ref b1), .unset, .unset] [(.int p5)]))
                  refine OwnGo.fwd (fun tq' kq' => XS.istore X40.here hx rfl (hb hby at_214) rfl (l' := #[.val (.int p0), .val (.int p1), .val (.int p2), .val (.int p3), .val (.int p4), .val (.int p5), .val (.int (2 : Int32)), .val (.int md), .val (.int ca), .val (.int d0), .val (.int d1), .val (.int d2), .val (.int y2), .val (.ref b1), .val (.int p5), .unset]) rfl kq') ?_
                  show OwnGo _ _ _ _ (T40.setTop (mkF m 216 #[.val (.int p0), .val (.int p1), .val (.int p2), .val (.int p3), .val (.int p4), .val (.int p5), .val (.int (2 : Int32)), .val (.int md), .val (.int ca), .val (.int d0), .val (.int d1), .val (.int d2), .val (.int y2), .val (.ref b1), .val (.int p5), .unset] []))
                  exact J216 _
    · show OwnGo _ _ _ _ (T2.setTop (mkF m 86 #[.val (.int p0), .val (.int p1), .val (.int p2), .val (.int p3), .val (.int p4), .val (.int p5), .val (.int (3 : Int32)), .val (.int md), .val (.int ca), .val (.int d0), .val (.int d1), .val (.int d2), .val (.int y2), .val (.ref b1), .unset, .unset] []))
      refine OwnGo.fwd (fun tq' kq' => XS.iload X2.here hx rfl (hb hby at_86) rfl kq') ?_
      show OwnGo _ _ _ _ (T2.setTop (mkF m 88 #[.val (.int p0), .val (.int p1), .val (.int p2), .val (.int p3), .val (.int p4), .val (.int p5), .val (.int (3 : Int32)), .val (.int md), .val (.int ca), .val (.int d0), .val (.int d1), .val (.int d2), .val (.int y2), .val (.ref b1), .unset, .unset] [(.int (3 : Int32))]))
      have hc88_66 : (0 : Int) < (3 : Int) := by decide
      refine OwnGo.fwd (fun tq' kq' => XS.ifNo X2.here hx rfl (hb hby at_88) rfl ((if0 _ _).trans (own_blt (by decide) (by decide) hc88_66).2.2.2) kq') ?_
      show OwnGo _ _ _ _ (T2.setTop (mkF m 91 #[.val (.int p0), .val (.int p1), .val (.int p2), .val (.int p3), .val (.int p4), .val (.int p5), .val (.int (3 : Int32)), .val (.int md), .val (.int ca), .val (.int d0), .val (.int d1), .val (.int d2), .val (.int y2), .val (.ref b1), .unset, .unset] []))
      refine OwnGo.fwd (fun tq' kq' => XS.aload X2.here hx rfl (hb hby at_91) rfl rfl kq') ?_
      show OwnGo _ _ _ _ (T2.setTop (mkF m 93 #[.val (.int p0), .val (.int p1), .val (.int p2), .val (.int p3), .val (.int p4), .val (.int p5), .val (.int (3 : Int32)), .val (.int md), .val (.int ca), .val (.int d0), .val (.int d1), .val (.int d2), .val (.int y2), .val (.ref b1), .unset, .unset] [(.ref b1)]))
      refine OwnGo.fwd (fun tq' kq' => XS.iload X2.here hx rfl (hb hby at_93) rfl kq') ?_
      show OwnGo _ _ _ _ (T2.setTop (mkF m 95 #[.val (.int p0), .val (.int p1), .val (.int p2), .val (.int p3), .val (.int p4), .val (.int p5), .val (.int (3 : Int32)), .val (.int md), .val (.int ca), .val (.int d0), .val (.int d1), .val (.int d2), .val (.int y2), .val (.ref b1), .unset, .unset] [(.int d0), (.ref b1)]))
      refine OwnGo.fwd (fun tq' kq' => XS.iloadN X2.here hx rfl (hb hby at_95) rfl kq') ?_
      show OwnGo _ _ _ _ (T2.setTop (mkF m 96 #[.val (.int p0), .val (.int p1), .val (.int p2), .val (.int p3), .val (.int p4), .val (.int p5), .val (.int (3 : Int32)), .val (.int md), .val (.int ca), .val (.int d0), .val (.int d1), .val (.int d2), .val (.int y2), .val (.ref b1), .unset, .unset] [(.int p3), (.int d0), (.ref b1)]))
      obtain ⟨cq67, kq67, q67a, q67b, q67c⟩ := isOf hZ eh2.symm E_b1
      obtain ⟨_, _, ⟨T67, L67, k67, n67⟩, -, X67, ⟨Lc67, hQ67, l67, y67, z67⟩, st67⟩ := X2.virtualBack hx (y := (⟨"com/example/inverse_frequency/inversefrequency/Postings", "add", "(II)V"⟩ : MethodName)) (z := (⟨"com/example/inverse_frequency/inversefrequency/Postings", "add", "(II)V"⟩ : MethodName)) hown (mvT hZ (hw _ (List.mem_of_getElem? (i := 36) rfl))) (mvT hZ (hw _ (List.mem_of_getElem? (i := 37) rfl))) (notFace_of_selects (args := #[]) (mvT hZ (hw _ (List.mem_of_getElem? (i := 39) rfl)))) (mvT hZ (hw _ (List.mem_of_getElem? (i := 39) rfl))) (mvT hZ (hw _ (List.mem_of_getElem? (i := 38) rfl))) (by decide) (backOf (W := 0) (rm8 l Z a0 hw [] b1 da fa 0 (0 : Int64) cp (fun _ => 0) (fun _ => 0) d0 p3 h2 n0 Zs ⟨E_b1, F_documents_b1, F_frequencies_b1, F_size_b1, F_totalFrequency_b1, V_da, V_fa, ne_b1_da, ne_b1_fa, ne_da_fa, g_b1, g_da, g_fa⟩ (by decide) (Nat.zero_le _) hcp1) hZ (hw _ (List.mem_of_getElem? (i := 40) rfl)) (hw _ (List.mem_of_getElem? (i := 3) rfl)) (by decide) (by decide)) q67a q67c (g := (mkF m 96 #[.val (.int p0), .val (.int p1), .val (.int p2), .val (.int p3), .val (.int p4), .val (.int p5), .val (.int (3 : Int32)), .val (.int md), .val (.int ca), .val (.int d0), .val (.int d1), .val (.int d2), .val (.int y2), .val (.ref b1), .unset, .unset] [(.int p3), (.int d0), (.ref b1)])) rfl (by rw [hml]; rfl) (Steps.refl _) (argsL := [(.int d0), (.int p3)]) (rest := []) (lenOf pd_6 rfl) rfl (by show 2 * 0 + _ ≤ _; exact Nat.le_of_eq rfl) (hb hby at_96) (fun _ _ => ⟨rfl, eh2.symm, (by decide : 3 + 2 ≤ _), (by decide : 14 + 8 ≤ _)⟩)
      dsimp only [Pt.U, Pt.locs, Pt.cells, Pt.slots] at X67 l67 y67 z67 st67 hQ67
      subst l67 y67 z67
      obtain ⟨h67, eh67⟩ : ∃ z, z = T67.heap := ⟨_, rfl⟩
      rw [← eh67] at hQ67
      obtain ⟨rfl, N67q, K67, da1, fa1, cp1, f1, g1, hl1, ⟨E_b1, F_documents_b1, F_frequencies_b1, F_size_b1, F_totalFrequency_b1, V_da1, V_fa1, ne_b1_da1, ne_b1_fa1, ne_da1_fa1, g_b1, g_da1, g_fa1⟩, hf1, hfx1, hg1, hgx1⟩ := hQ67
      have N := Fr.app N N67q
      have Zs := Nat.le_trans Zs K67.1
      refine OwnGo.thru st67 ?_
      show OwnGo _ _ _ _ (T67.setTop (mkF m 99 #[.val (.int p0), .val (.int p1), .val (.int p2), .val (.int p3), .val (.int p4), .val (.int p5), .val (.int (3 : Int32)), .val (.int md), .val (.int ca), .val (.int d0), .val (.int d1), .val (.int d2), .val (.int y2), .val (.ref b1), .unset, .unset] []))
      refine OwnGo.fwd (fun tq' kq' => XS.iload X67.here hx rfl (hb hby at_99) rfl kq') ?_
      show OwnGo _ _ _ _ (T67.setTop (mkF m 101 #[.val (.int p0), .val (.int p1), .val (.int p2), .val (.int p3), .val (.int p4), .val (.int p5), .val (.int (3 : Int32)), .val (.int md), .val (.int ca), .val (.int d0), .val (.int d1), .val (.int d2), .val (.int y2), .val (.ref b1), .unset, .unset] [(.int (3 : Int32))]))
      refine OwnGo.fwd (fun tq' kq' => XS.iconst X67.here hx rfl (hb hby at_101) kq') ?_
      show OwnGo _ _ _ _ (T67.setTop (mkF m 102 #[.val (.int p0), .val (.int p1), .val (.int p2), .val (.int p3), .val (.int p4), .val (.int p5), .val (.int (3 : Int32)), .val (.int md), .val (.int ca), .val (.int d0), .val (.int d1), .val (.int d2), .val (.int y2), .val (.ref b1), .unset, .unset] [(.int (1 : Int32)), (.int (3 : Int32))]))
      have hc102_68 : (1 : Int) < (3 : Int) := by decide
      refine OwnGo.fwd (fun tq' kq' => XS.icmpNo X67.here hx rfl (hb hby at_102) rfl (own_blt (by decide) (by decide) hc102_68).2.2.2 kq') ?_
      show OwnGo _ _ _ _ (T67.setTop (mkF m 105 #[.val (.int p0), .val (.int p1), .val (.int p2), .val (.int p3), .val (.int p4), .val (.int p5), .val (.int (3 : Int32)), .val (.int md), .val (.int ca), .val (.int d0), .val (.int d1), .val (.int d2), .val (.int y2), .val (.ref b1), .unset, .unset] []))
      refine OwnGo.fwd (fun tq' kq' => XS.aload X67.here hx rfl (hb hby at_105) rfl rfl kq') ?_
      show OwnGo _ _ _ _ (T67.setTop (mkF m 107 #[.val (.int p0), .val (.int p1), .val (.int p2), .val (.int p3), .val (.int p4), .val (.int p5), .val (.int (3 : Int32)), .val (.int md), .val (.int ca), .val (.int d0), .val (.int d1), .val (.int d2), .val (.int y2), .val (.ref b1), .unset, .unset] [(.ref b1)]))
      refine OwnGo.fwd (fun tq' kq' => XS.iload X67.here hx rfl (hb hby at_107) rfl kq') ?_
      show OwnGo _ _ _ _ (T67.setTop (mkF m 109 #[.val (.int p0), .val (.int p1), .val (.int p2), .val (.int p3), .val (.int p4), .val (.int p5), .val (.int (3 : Int32)), .val (.int md), .val (.int ca), .val (.int d0), .val (.int d1), .val (.int d2), .val (.int y2), .val (.ref b1), .unset, .unset] [(.int d1), (.ref b1)]))
      refine OwnGo.fwd (fun tq' kq' => XS.iload X67.here hx rfl (hb hby at_109) rfl kq') ?_
      show OwnGo _ _ _ _ (T67.setTop (mkF m 111 #[.val (.int p0), .val (.int p1), .val (.int p2), .val (.int p3), .val (.int p4), .val (.int p5), .val (.int (3 : Int32)), .val (.int md), .val (.int ca), .val (.int d0), .val (.int d1), .val (.int d2), .val (.int y2), .val (.ref b1), .unset, .unset] [(.int p4), (.int d1), (.ref b1)]))
      obtain ⟨cq69, kq69, q69a, q69b, q69c⟩ := isOf hZ eh67.symm E_b1
      obtain ⟨_, _, ⟨T69, L69, k69, n69⟩, -, X69, ⟨Lc69, hQ69, l69, y69, z69⟩, st69⟩ := X67.virtualBack hx (y := (⟨"com/example/inverse_frequency/inversefrequency/Postings", "add", "(II)V"⟩ : MethodName)) (z := (⟨"com/example/inverse_frequency/inversefrequency/Postings", "add", "(II)V"⟩ : MethodName)) hown (mvT hZ (hw _ (List.mem_of_getElem? (i := 36) rfl))) (mvT hZ (hw _ (List.mem_of_getElem? (i := 37) rfl))) (notFace_of_selects (args := #[]) (mvT hZ (hw _ (List.mem_of_getElem? (i := 39) rfl)))) (mvT hZ (hw _ (List.mem_of_getElem? (i := 39) rfl))) (mvT hZ (hw _ (List.mem_of_getElem? (i := 38) rfl))) (by decide) (backOf (W := 0) (rm8 l Z a0 hw [] b1 da1 fa1 1 ((0 : Int64) + p3.toInt64) cp1 f1 g1 d1 p4 h67 n0 Zs ⟨E_b1, F_documents_b1, F_frequencies_b1, F_size_b1, F_totalFrequency_b1, V_da1, V_fa1, ne_b1_da1, ne_b1_fa1, ne_da1_fa1, g_b1, g_da1, g_fa1⟩ (by decide) hl1 (Nat.lt_of_le_of_lt (Nat.zero_le _) hl1)) hZ (hw _ (List.mem_of_getElem? (i := 40) rfl)) (hw _ (List.mem_of_getElem? (i := 3) rfl)) (by decide) (by decide)) q69a q69c (g := (mkF m 111 #[.val (.int p0), .val (.int p1), .val (.int p2), .val (.int p3), .val (.int p4), .val (.int p5), .val (.int (3 : Int32)), .val (.int md), .val (.int ca), .val (.int d0), .val (.int d1), .val (.int d2), .val (.int y2), .val (.ref b1), .unset, .unset] [(.int p4), (.int d1), (.ref b1)])) rfl (by rw [hml]; rfl) (Steps.refl _) (argsL := [(.int d1), (.int p4)]) (rest := []) (lenOf pd_6 rfl) rfl (by show 2 * 0 + _ ≤ _; exact Nat.le_of_eq rfl) (hb hby at_111) (fun _ _ => ⟨rfl, eh67.symm, (by decide : 5 + 2 ≤ _), (by decide : 22 + 8 ≤ _)⟩)
      dsimp only [Pt.U, Pt.locs, Pt.cells, Pt.slots] at X69 l69 y69 z69 st69 hQ69
      subst l69 y69 z69
      obtain ⟨h69, eh69⟩ : ∃ z, z = T69.heap := ⟨_, rfl⟩
      rw [← eh69] at hQ69
      obtain ⟨rfl, N69q, K69, da2, fa2, cp2, f2, g2, hl2, ⟨E_b1, F_documents_b1, F_frequencies_b1, F_size_b1, F_totalFrequency_b1, V_da2, V_fa2, ne_b1_da2, ne_b1_fa2, ne_da2_fa2, g_b1, g_da2, g_fa2⟩, hf2, hfx2, hg2, hgx2⟩ := hQ69
      have N := Fr.app N N69q
      have Zs := Nat.le_trans Zs K69.1
      refine OwnGo.thru st69 ?_
      show OwnGo _ _ _ _ (T69.setTop (mkF m 114 #[.val (.int p0), .val (.int p1), .val (.int p2), .val (.int p3), .val (.int p4), .val (.int p5), .val (.int (3 : Int32)), .val (.int md), .val (.int ca), .val (.int d0), .val (.int d1), .val (.int d2), .val (.int y2), .val (.ref b1), .unset, .unset] []))
      refine OwnGo.fwd (fun tq' kq' => XS.iload X69.here hx rfl (hb hby at_114) rfl kq') ?_
      show OwnGo _ _ _ _ (T69.setTop (mkF m 116 #[.val (.int p0), .val (.int p1), .val (.int p2), .val (.int p3), .val (.int p4), .val (.int p5), .val (.int (3 : Int32)), .val (.int md), .val (.int ca), .val (.int d0), .val (.int d1), .val (.int d2), .val (.int y2), .val (.ref b1), .unset, .unset] [(.int (3 : Int32))]))
      refine OwnGo.fwd (fun tq' kq' => XS.iconst X69.here hx rfl (hb hby at_116) kq') ?_
      show OwnGo _ _ _ _ (T69.setTop (mkF m 117 #[.val (.int p0), .val (.int p1), .val (.int p2), .val (.int p3), .val (.int p4), .val (.int p5), .val (.int (3 : Int32)), .val (.int md), .val (.int ca), .val (.int d0), .val (.int d1), .val (.int d2), .val (.int y2), .val (.ref b1), .unset, .unset] [(.int (2 : Int32)), (.int (3 : Int32))]))
      have hc117_70 : (2 : Int) < (3 : Int) := by decide
      refine OwnGo.fwd (fun tq' kq' => XS.icmpNo X69.here hx rfl (hb hby at_117) rfl (own_blt (by decide) (by decide) hc117_70).2.2.2 kq') ?_
      show OwnGo _ _ _ _ (T69.setTop (mkF m 120 #[.val (.int p0), .val (.int p1), .val (.int p2), .val (.int p3), .val (.int p4), .val (.int p5), .val (.int (3 : Int32)), .val (.int md), .val (.int ca), .val (.int d0), .val (.int d1), .val (.int d2), .val (.int y2), .val (.ref b1), .unset, .unset] []))
      refine OwnGo.fwd (fun tq' kq' => XS.aload X69.here hx rfl (hb hby at_120) rfl rfl kq') ?_
      show OwnGo _ _ _ _ (T69.setTop (mkF m 122 #[.val (.int p0), .val (.int p1), .val (.int p2), .val (.int p3), .val (.int p4), .val (.int p5), .val (.int (3 : Int32)), .val (.int md), .val (.int ca), .val (.int d0), .val (.int d1), .val (.int d2), .val (.int y2), .val (.ref b1), .unset, .unset] [(.ref b1)]))
      refine OwnGo.fwd (fun tq' kq' => XS.iload X69.here hx rfl (hb hby at_122) rfl kq') ?_
      show OwnGo _ _ _ _ (T69.setTop (mkF m 124 #[.val (.int p0), .val (.int p1), .val (.int p2), .val (.int p3), .val (.int p4), .val (.int p5), .val (.int (3 : Int32)), .val (.int md), .val (.int ca), .val (.int d0), .val (.int d1), .val (.int d2), .val (.int y2), .val (.ref b1), .unset, .unset] [(.int d2), (.ref b1)]))
      refine OwnGo.fwd (fun tq' kq' => XS.iload X69.here hx rfl (hb hby at_124) rfl kq') ?_
      show OwnGo _ _ _ _ (T69.setTop (mkF m 126 #[.val (.int p0), .val (.int p1), .val (.int p2), .val (.int p3), .val (.int p4), .val (.int p5), .val (.int (3 : Int32)), .val (.int md), .val (.int ca), .val (.int d0), .val (.int d1), .val (.int d2), .val (.int y2), .val (.ref b1), .unset, .unset] [(.int y2), (.int d2), (.ref b1)]))
      obtain ⟨cq71, kq71, q71a, q71b, q71c⟩ := isOf hZ eh69.symm E_b1
      obtain ⟨_, _, ⟨T71, L71, k71, n71⟩, -, X71, ⟨Lc71, hQ71, l71, y71, z71⟩, st71⟩ := X69.virtualBack hx (y := (⟨"com/example/inverse_frequency/inversefrequency/Postings", "add", "(II)V"⟩ : MethodName)) (z := (⟨"com/example/inverse_frequency/inversefrequency/Postings", "add", "(II)V"⟩ : MethodName)) hown (mvT hZ (hw _ (List.mem_of_getElem? (i := 36) rfl))) (mvT hZ (hw _ (List.mem_of_getElem? (i := 37) rfl))) (notFace_of_selects (args := #[]) (mvT hZ (hw _ (List.mem_of_getElem? (i := 39) rfl)))) (mvT hZ (hw _ (List.mem_of_getElem? (i := 39) rfl))) (mvT hZ (hw _ (List.mem_of_getElem? (i := 38) rfl))) (by decide) (backOf (W := 0) (rm8 l Z a0 hw [] b1 da2 fa2 2 (((0 : Int64) + p3.toInt64) + p4.toInt64) cp2 f2 g2 d2 y2 h69 n0 Zs ⟨E_b1, F_documents_b1, F_frequencies_b1, F_size_b1, F_totalFrequency_b1, V_da2, V_fa2, ne_b1_da2, ne_b1_fa2, ne_da2_fa2, g_b1, g_da2, g_fa2⟩ (by decide) hl2 (Nat.lt_of_le_of_lt (Nat.zero_le _) hl2)) hZ (hw _ (List.mem_of_getElem? (i := 40) rfl)) (hw _ (List.mem_of_getElem? (i := 3) rfl)) (by decide) (by decide)) q71a q71c (g := (mkF m 126 #[.val (.int p0), .val (.int p1), .val (.int p2), .val (.int p3), .val (.int p4), .val (.int p5), .val (.int (3 : Int32)), .val (.int md), .val (.int ca), .val (.int d0), .val (.int d1), .val (.int d2), .val (.int y2), .val (.ref b1), .unset, .unset] [(.int y2), (.int d2), (.ref b1)])) rfl (by rw [hml]; rfl) (Steps.refl _) (argsL := [(.int d2), (.int y2)]) (rest := []) (lenOf pd_6 rfl) rfl (by show 2 * 0 + _ ≤ _; exact Nat.le_of_eq rfl) (hb hby at_126) (fun _ _ => ⟨rfl, eh69.symm, (by decide : 7 + 2 ≤ _), (by decide : 30 + 8 ≤ _)⟩)
      dsimp only [Pt.U, Pt.locs, Pt.cells, Pt.slots] at X71 l71 y71 z71 st71 hQ71
      subst l71 y71 z71
      obtain ⟨h71, eh71⟩ : ∃ z, z = T71.heap := ⟨_, rfl⟩
      rw [← eh71] at hQ71
      obtain ⟨rfl, N71q, K71, da3, fa3, cp3, f3, g3, hl3, ⟨E_b1, F_documents_b1, F_frequencies_b1, F_size_b1, F_totalFrequency_b1, V_da3, V_fa3, ne_b1_da3, ne_b1_fa3, ne_da3_fa3, g_b1, g_da3, g_fa3⟩, hf3, hfx3, hg3, hgx3⟩ := hQ71
      have N := Fr.app N N71q
      have Zs := Nat.le_trans Zs K71.1
      refine OwnGo.thru st71 ?_
      show OwnGo _ _ _ _ (T71.setTop (mkF m 129 #[.val (.int p0), .val (.int p1), .val (.int p2), .val (.int p3), .val (.int p4), .val (.int p5), .val (.int (3 : Int32)), .val (.int md), .val (.int ca), .val (.int d0), .val (.int d1), .val (.int d2), .val (.int y2), .val (.ref b1), .unset, .unset] []))
      have ef3_0 : f3 0 = d0 := by rw [hf3 0 (by omega), hf2 0 (by omega), hfx1]
      have eg3_0 : g3 0 = p3 := by rw [hg3 0 (by omega), hg2 0 (by omega), hgx1]
      have ef3_1 : f3 1 = d1 := by rw [hf3 1 (by omega), hfx2]
      have eg3_1 : g3 1 = p4 := by rw [hg3 1 (by omega), hgx2]
      have ef3_2 : f3 2 = d2 := by rw [hfx3]
      have eg3_2 : g3 2 = y2 := by rw [hgx3]
      have J216 : ∀ qq : Int32, OwnGo p.tables e below (OwnEnd s (Q0 Z p0 p1 p2 p3 p4 p5 h0 n0) room_1.cells room_1.slots) (T71.setTop (mkF m 216 #[.val (.int p0), .val (.int p1), .val (.int p2), .val (.int p3), .val (.int p4), .val (.int p5), .val (.int (3 : Int32)), .val (.int md), .val (.int ca), .val (.int d0), .val (.int d1), .val (.int d2), .val (.int y2), .val (.ref b1), .val (.int qq), .unset] [])) := by
        intro qq
        show OwnGo _ _ _ _ (T71.setTop (mkF m 216 #[.val (.int p0), .val (.int p1), .val (.int p2), .val (.int p3), .val (.int p4), .val (.int p5), .val (.int (3 : Int32)), .val (.int md), .val (.int ca), .val (.int d0), .val (.int d1), .val (.int d2), .val (.int y2), .val (.ref b1), .val (.int qq), .unset] []))
        refine OwnGo.fwd (fun tq' kq' => XS.iconst X71.here hx rfl (hb hby at_216) kq') ?_
        show OwnGo _ _ _ _ (T71.setTop (mkF m 217 #[.val (.int p0), .val (.int p1), .val (.int p2), .val (.int p3), .val (.int p4), .val (.int p5), .val (.int (3 : Int32)), .val (.int md), .val (.int ca), .val (.int d0), .val (.int d1), .val (.int d2), .val (.int y2), .val (.ref b1), .val (.int qq), .unset] [(.int (0 : Int32))]))
        refine OwnGo.fwd (fun tq' kq' => XS.istore X71.here hx rfl (hb hby at_217) rfl (l' := #[.val (.int p0), .val (.int p1), .val (.int p2), .val (.int p3), .val (.int p4), .val (.int p5), .val (.int (3 : Int32)), .val (.int md), .val (.int ca), .val (.int d0), .val (.int d1), .val (.int d2), .val (.int y2), .val (.ref b1), .val (.int qq), .val (.int (0 : Int32))]) rfl kq') ?_
        show OwnGo _ _ _ _ (T71.setTop (mkF m 219 #[.val (.int p0), .val (.int p1), .val (.int p2), .val (.int p3), .val (.int p4), .val (.int p5), .val (.int (3 : Int32)), .val (.int md), .val (.int ca), .val (.int d0), .val (.int d1), .val (.int d2), .val (.int y2), .val (.ref b1), .val (.int qq), .val (.int (0 : Int32))] []))
        refine OwnGo.fwd (fun tq' kq' => XS.iload X71.here hx rfl (hb hby at_219) rfl kq') ?_
        show OwnGo _ _ _ _ (T71.setTop (mkF m 221 #[.val (.int p0), .val (.int p1), .val (.int p2), .val (.int p3), .val (.int p4), .val (.int p5), .val (.int (3 : Int32)), .val (.int md), .val (.int ca), .val (.int d0), .val (.int d1), .val (.int d2), .val (.int y2), .val (.ref b1), .val (.int qq), .val (.int (0 : Int32))] [(.int (3 : Int32))]))
        have hc221_72 : (0 : Int) < (3 : Int) := by decide
        refine OwnGo.fwd (fun tq' kq' => XS.ifNo X71.here hx rfl (hb hby at_221) rfl ((if0 _ _).trans (own_blt (by decide) (by decide) hc221_72).2.2.2) kq') ?_
        show OwnGo _ _ _ _ (T71.setTop (mkF m 224 #[.val (.int p0), .val (.int p1), .val (.int p2), .val (.int p3), .val (.int p4), .val (.int p5), .val (.int (3 : Int32)), .val (.int md), .val (.int ca), .val (.int d0), .val (.int d1), .val (.int d2), .val (.int y2), .val (.ref b1), .val (.int qq), .val (.int (0 : Int32))] []))
        refine OwnGo.fwd (fun tq' kq' => XS.iload X71.here hx rfl (hb hby at_224) rfl kq') ?_
        show OwnGo _ _ _ _ (T71.setTop (mkF m 226 #[.val (.int p0), .val (.int p1), .val (.int p2), .val (.int p3), .val (.int p4), .val (.int p5), .val (.int (3 : Int32)), .val (.int md), .val (.int ca), .val (.int d0), .val (.int d1), .val (.int d2), .val (.int y2), .val (.ref b1), .val (.int qq), .val (.int (0 : Int32))] [(.int qq)]))
        refine OwnGo.fwd (fun tq' kq' => XS.iload X71.here hx rfl (hb hby at_226) rfl kq') ?_
        show OwnGo _ _ _ _ (T71.setTop (mkF m 228 #[.val (.int p0), .val (.int p1), .val (.int p2), .val (.int p3), .val (.int p4), .val (.int p5), .val (.int (3 : Int32)), .val (.int md), .val (.int ca), .val (.int d0), .val (.int d1), .val (.int d2), .val (.int y2), .val (.ref b1), .val (.int qq), .val (.int (0 : Int32))] [(.int d0), (.int qq)]))
        by_cases hc228_73 : qq.toInt = d0.toInt
        · refine OwnGo.fwd (fun tq' kq' => XS.icmpNo X71.here hx rfl (hb hby at_228) rfl (own_beq rfl rfl hc228_73).2 kq') ?_
          show OwnGo _ _ _ _ (T71.setTop (mkF m 231 #[.val (.int p0), .val (.int p1), .val (.int p2), .val (.int p3), .val (.int p4), .val (.int p5), .val (.int (3 : Int32)), .val (.int md), .val (.int ca), .val (.int d0), .val (.int d1), .val (.int d2), .val (.int y2), .val (.ref b1), .val (.int qq), .val (.int (0 : Int32))] []))
          refine OwnGo.fwd (fun tq' kq' => XS.iloadN X71.here hx rfl (hb hby at_231) rfl kq') ?_
          show OwnGo _ _ _ _ (T71.setTop (mkF m 232 #[.val (.int p0), .val (.int p1), .val (.int p2), .val (.int p3), .val (.int p4), .val (.int p5), .val (.int (3 : Int32)), .val (.int md), .val (.int ca), .val (.int d0), .val (.int d1), .val (.int d2), .val (.int y2), .val (.ref b1), .val (.int qq), .val (.int (0 : Int32))] [(.int p3)]))
          refine OwnGo.fwd (fun tq' kq' => XS.istore X71.here hx rfl (hb hby at_232) rfl (l' := #[.val (.int p0), .val (.int p1), .val (.int p2), .val (.int p3), .val (.int p4), .val (.int p5), .val (.int (3 : Int32)), .val (.int md), .val (.int ca), .val (.int d0), .val (.int d1), .val (.int d2), .val (.int y2), .val (.ref b1), .val (.int qq), .val (.int p3)]) rfl kq') ?_
          show OwnGo _ _ _ _ (T71.setTop (mkF m 234 #[.val (.int p0), .val (.int p1), .val (.int p2), .val (.int p3), .val (.int p4), .val (.int p5), .val (.int (3 : Int32)), .val (.int md), .val (.int ca), .val (.int d0), .val (.int d1), .val (.int d2), .val (.int y2), .val (.ref b1), .val (.int qq), .val (.int p3)] []))
          refine OwnGo.fwd (fun tq' kq' => XS.iload X71.here hx rfl (hb hby at_234) rfl kq') ?_
          show OwnGo _ _ _ _ (T71.setTop (mkF m 236 #[.val (.int p0), .val (.int p1), .val (.int p2), .val (.int p3), .val (.int p4), .val (.int p5), .val (.int (3 : Int32)), .val (.int md), .val (.int ca), .val (.int d0), .val (.int d1), .val (.int d2), .val (.int y2), .val (.ref b1), .val (.int qq), .val (.int p3)] [(.int (3 : Int32))]))
          refine OwnGo.fwd (fun tq' kq' => XS.iconst X71.here hx rfl (hb hby at_236) kq') ?_
          show OwnGo _ _ _ _ (T71.setTop (mkF m 237 #[.val (.int p0), .val (.int p1), .val (.int p2), .val (.int p3), .val (.int p4), .val (.int p5), .val (.int (3 : Int32)), .val (.int md), .val (.int ca), .val (.int d0), .val (.int d1), .val (.int d2), .val (.int y2), .val (.ref b1), .val (.int qq), .val (.int p3)] [(.int (1 : Int32)), (.int (3 : Int32))]))
          have hc237_74 : (1 : Int) < (3 : Int) := by decide
          refine OwnGo.fwd (fun tq' kq' => XS.icmpNo X71.here hx rfl (hb hby at_237) rfl (own_blt (by decide) (by decide) hc237_74).2.2.2 kq') ?_
          show OwnGo _ _ _ _ (T71.setTop (mkF m 240 #[.val (.int p0), .val (.int p1), .val (.int p2), .val (.int p3), .val (.int p4), .val (.int p5), .val (.int (3 : Int32)), .val (.int md), .val (.int ca), .val (.int d0), .val (.int d1), .val (.int d2), .val (.int y2), .val (.ref b1), .val (.int qq), .val (.int p3)] []))
          refine OwnGo.fwd (fun tq' kq' => XS.iload X71.here hx rfl (hb hby at_240) rfl kq') ?_
          show OwnGo _ _ _ _ (T71.setTop (mkF m 242 #[.val (.int p0), .val (.int p1), .val (.int p2), .val (.int p3), .val (.int p4), .val (.int p5), .val (.int (3 : Int32)), .val (.int md), .val (.int ca), .val (.int d0), .val (.int d1), .val (.int d2), .val (.int y2), .val (.ref b1), .val (.int qq), .val (.int p3)] [(.int qq)]))
          refine OwnGo.fwd (fun tq' kq' => XS.iload X71.here hx rfl (hb hby at_242) rfl kq') ?_
          show OwnGo _ _ _ _ (T71.setTop (mkF m 244 #[.val (.int p0), .val (.int p1), .val (.int p2), .val (.int p3), .val (.int p4), .val (.int p5), .val (.int (3 : Int32)), .val (.int md), .val (.int ca), .val (.int d0), .val (.int d1), .val (.int d2), .val (.int y2), .val (.ref b1), .val (.int qq), .val (.int p3)] [(.int d1), (.int qq)]))
          by_cases hc244_75 : qq.toInt = d1.toInt
          · refine OwnGo.fwd (fun tq' kq' => XS.icmpNo X71.here hx rfl (hb hby at_244) rfl (own_beq rfl rfl hc244_75).2 kq') ?_
            show OwnGo _ _ _ _ (T71.setTop (mkF m 247 #[.val (.int p0), .val (.int p1), .val (.int p2), .val (.int p3), .val (.int p4), .val (.int p5), .val (.int (3 : Int32)), .val (.int md), .val (.int ca), .val (.int d0), .val (.int d1), .val (.int d2), .val (.int y2), .val (.ref b1), .val (.int qq), .val (.int p3)] []))
            refine OwnGo.fwd (fun tq' kq' => XS.iload X71.here hx rfl (hb hby at_247) rfl kq') ?_
            show OwnGo _ _ _ _ (T71.setTop (mkF m 249 #[.val (.int p0), .val (.int p1), .val (.int p2), .val (.int p3), .val (.int p4), .val (.int p5), .val (.int (3 : Int32)), .val (.int md), .val (.int ca), .val (.int d0), .val (.int d1), .val (.int d2), .val (.int y2), .val (.ref b1), .val (.int qq), .val (.int p3)] [(.int p4)]))
            refine OwnGo.fwd (fun tq' kq' => XS.istore X71.here hx rfl (hb hby at_249) rfl (l' := #[.val (.int p0), .val (.int p1), .val (.int p2), .val (.int p3), .val (.int p4), .val (.int p5), .val (.int (3 : Int32)), .val (.int md), .val (.int ca), .val (.int d0), .val (.int d1), .val (.int d2), .val (.int y2), .val (.ref b1), .val (.int qq), .val (.int p4)]) rfl kq') ?_
            show OwnGo _ _ _ _ (T71.setTop (mkF m 251 #[.val (.int p0), .val (.int p1), .val (.int p2), .val (.int p3), .val (.int p4), .val (.int p5), .val (.int (3 : Int32)), .val (.int md), .val (.int ca), .val (.int d0), .val (.int d1), .val (.int d2), .val (.int y2), .val (.ref b1), .val (.int qq), .val (.int p4)] []))
            refine OwnGo.fwd (fun tq' kq' => XS.iload X71.here hx rfl (hb hby at_251) rfl kq') ?_
            show OwnGo _ _ _ _ (T71.setTop (mkF m 253 #[.val (.int p0), .val (.int p1), .val (.int p2), .val (.int p3), .val (.int p4), .val (.int p5), .val (.int (3 : Int32)), .val (.int md), .val (.int ca), .val (.int d0), .val (.int d1), .val (.int d2), .val (.int y2), .val (.ref b1), .val (.int qq), .val (.int p4)] [(.int (3 : Int32))]))
            refine OwnGo.fwd (fun tq' kq' => XS.iconst X71.here hx rfl (hb hby at_253) kq') ?_
            show OwnGo _ _ _ _ (T71.setTop (mkF m 254 #[.val (.int p0), .val (.int p1), .val (.int p2), .val (.int p3), .val (.int p4), .val (.int p5), .val (.int (3 : Int32)), .val (.int md), .val (.int ca), .val (.int d0), .val (.int d1), .val (.int d2), .val (.int y2), .val (.ref b1), .val (.int qq), .val (.int p4)] [(.int (2 : Int32)), (.int (3 : Int32))]))
            have hc254_76 : (2 : Int) < (3 : Int) := by decide
            refine OwnGo.fwd (fun tq' kq' => XS.icmpNo X71.here hx rfl (hb hby at_254) rfl (own_blt (by decide) (by decide) hc254_76).2.2.2 kq') ?_
            show OwnGo _ _ _ _ (T71.setTop (mkF m 257 #[.val (.int p0), .val (.int p1), .val (.int p2), .val (.int p3), .val (.int p4), .val (.int p5), .val (.int (3 : Int32)), .val (.int md), .val (.int ca), .val (.int d0), .val (.int d1), .val (.int d2), .val (.int y2), .val (.ref b1), .val (.int qq), .val (.int p4)] []))
            refine OwnGo.fwd (fun tq' kq' => XS.iload X71.here hx rfl (hb hby at_257) rfl kq') ?_
            show OwnGo _ _ _ _ (T71.setTop (mkF m 259 #[.val (.int p0), .val (.int p1), .val (.int p2), .val (.int p3), .val (.int p4), .val (.int p5), .val (.int (3 : Int32)), .val (.int md), .val (.int ca), .val (.int d0), .val (.int d1), .val (.int d2), .val (.int y2), .val (.ref b1), .val (.int qq), .val (.int p4)] [(.int qq)]))
            refine OwnGo.fwd (fun tq' kq' => XS.iload X71.here hx rfl (hb hby at_259) rfl kq') ?_
            show OwnGo _ _ _ _ (T71.setTop (mkF m 261 #[.val (.int p0), .val (.int p1), .val (.int p2), .val (.int p3), .val (.int p4), .val (.int p5), .val (.int (3 : Int32)), .val (.int md), .val (.int ca), .val (.int d0), .val (.int d1), .val (.int d2), .val (.int y2), .val (.ref b1), .val (.int qq), .val (.int p4)] [(.int d2), (.int qq)]))
            by_cases hc261_77 : qq.toInt = d2.toInt
            · refine OwnGo.fwd (fun tq' kq' => XS.icmpNo X71.here hx rfl (hb hby at_261) rfl (own_beq rfl rfl hc261_77).2 kq') ?_
              show OwnGo _ _ _ _ (T71.setTop (mkF m 264 #[.val (.int p0), .val (.int p1), .val (.int p2), .val (.int p3), .val (.int p4), .val (.int p5), .val (.int (3 : Int32)), .val (.int md), .val (.int ca), .val (.int d0), .val (.int d1), .val (.int d2), .val (.int y2), .val (.ref b1), .val (.int qq), .val (.int p4)] []))
              refine OwnGo.fwd (fun tq' kq' => XS.iload X71.here hx rfl (hb hby at_264) rfl kq') ?_
              show OwnGo _ _ _ _ (T71.setTop (mkF m 266 #[.val (.int p0), .val (.int p1), .val (.int p2), .val (.int p3), .val (.int p4), .val (.int p5), .val (.int (3 : Int32)), .val (.int md), .val (.int ca), .val (.int d0), .val (.int d1), .val (.int d2), .val (.int y2), .val (.ref b1), .val (.int qq), .val (.int p4)] [(.int y2)]))
              refine OwnGo.fwd (fun tq' kq' => XS.istore X71.here hx rfl (hb hby at_266) rfl (l' := #[.val (.int p0), .val (.int p1), .val (.int p2), .val (.int p3), .val (.int p4), .val (.int p5), .val (.int (3 : Int32)), .val (.int md), .val (.int ca), .val (.int d0), .val (.int d1), .val (.int d2), .val (.int y2), .val (.ref b1), .val (.int qq), .val (.int y2)]) rfl kq') ?_
              show OwnGo _ _ _ _ (T71.setTop (mkF m 268 #[.val (.int p0), .val (.int p1), .val (.int p2), .val (.int p3), .val (.int p4), .val (.int p5), .val (.int (3 : Int32)), .val (.int md), .val (.int ca), .val (.int d0), .val (.int d1), .val (.int d2), .val (.int y2), .val (.ref b1), .val (.int qq), .val (.int y2)] []))
              refine OwnGo.fwd (fun tq' kq' => XS.aload X71.here hx rfl (hb hby at_268) rfl rfl kq') ?_
              show OwnGo _ _ _ _ (T71.setTop (mkF m 270 #[.val (.int p0), .val (.int p1), .val (.int p2), .val (.int p3), .val (.int p4), .val (.int p5), .val (.int (3 : Int32)), .val (.int md), .val (.int ca), .val (.int d0), .val (.int d1), .val (.int d2), .val (.int y2), .val (.ref b1), .val (.int qq), .val (.int y2)] [(.ref b1)]))
              refine OwnGo.fwd (fun tq' kq' => XS.iload X71.here hx rfl (hb hby at_270) rfl kq') ?_
              show OwnGo _ _ _ _ (T71.setTop (mkF m 272 #[.val (.int p0), .val (.int p1), .val (.int p2), .val (.int p3), .val (.int p4), .val (.int p5), .val (.int (3 : Int32)), .val (.int md), .val (.int ca), .val (.int d0), .val (.int d1), .val (.int d2), .val (.int y2), .val (.ref b1), .val (.int qq), .val (.int y2)] [(.int qq), (.ref b1)]))
              obtain ⟨cq78, kq78, q78a, q78b, q78c⟩ := isOf hZ eh71.symm E_b1
              obtain ⟨_, _, ⟨T78, L78, k78, n78⟩, -, X78, ⟨Lc78, hQ78, l78, y78, z78⟩, st78⟩ := X71.virtualBack hx (y := (⟨"com/example/inverse_frequency/inversefrequency/Postings", "frequencyIn", "(I)I"⟩ : MethodName)) (z := (⟨"com/example/inverse_frequency/inversefrequency/Postings", "frequencyIn", "(I)I"⟩ : MethodName)) hown (mvT hZ (hw _ (List.mem_of_getElem? (i := 19) rfl))) (mvT hZ (hw _ (List.mem_of_getElem? (i := 20) rfl))) (notFace_of_selects (args := #[]) (mvT hZ (hw _ (List.mem_of_getElem? (i := 22) rfl)))) (mvT hZ (hw _ (List.mem_of_getElem? (i := 22) rfl))) (mvT hZ (hw _ (List.mem_of_getElem? (i := 21) rfl))) (by decide) (backOf (W := 0) (rm4n3 l Z a0 hw [] b1 da3 fa3 ((((0 : Int64) + p3.toInt64) + p4.toInt64) + y2.toInt64) cp3 f3 g3 qq h71 n0 Zs ⟨E_b1, F_documents_b1, F_frequencies_b1, F_size_b1, F_totalFrequency_b1, V_da3, V_fa3, ne_b1_da3, ne_b1_fa3, ne_da3_fa3, g_b1, g_da3, g_fa3⟩ (by omega) (by rw [ef3_0, ef3_1]; exact h01) (by rw [ef3_1, ef3_2]; exact h12)) hZ (hw _ (List.mem_of_getElem? (i := 23) rfl)) (hw _ (List.mem_of_getElem? (i := 3) rfl)) (by decide) (by decide)) q78a q78c (g := (mkF m 272 #[.val (.int p0), .val (.int p1), .val (.int p2), .val (.int p3), .val (.int p4), .val (.int p5), .val (.int (3 : Int32)), .val (.int md), .val (.int ca), .val (.int d0), .val (.int d1), .val (.int d2), .val (.int y2), .val (.ref b1), .val (.int qq), .val (.int y2)] [(.int qq), (.ref b1)])) rfl (by rw [hml]; rfl) (Steps.refl _) (argsL := [(.int qq)]) (rest := []) (lenOf pd_3 rfl) rfl (by show 2 * 0 + _ ≤ _; exact Nat.le_of_eq rfl) (hb hby at_272) (fun _ _ => ⟨rfl, eh71.symm, (by decide : 9 + 0 ≤ _), (by decide : 38 + 0 ≤ _)⟩)
              dsimp only [Pt.U, Pt.locs, Pt.cells, Pt.slots] at X78 l78 y78 z78 st78 hQ78
              subst l78 y78 z78
              obtain ⟨N78q, e78, r78, rfl, hr78⟩ := hQ78
              have N := Fr.app N N78q
              refine OwnGo.thru st78 ?_
              show OwnGo _ _ _ _ (T78.setTop (mkF m 275 #[.val (.int p0), .val (.int p1), .val (.int p2), .val (.int p3), .val (.int p4), .val (.int p5), .val (.int (3 : Int32)), .val (.int md), .val (.int ca), .val (.int d0), .val (.int d1), .val (.int d2), .val (.int y2), .val (.ref b1), .val (.int qq), .val (.int y2)] [(.int r78)]))
              refine OwnGo.fwd (fun tq' kq' => XS.iload X78.here hx rfl (hb hby at_275) rfl kq') ?_
              show OwnGo _ _ _ _ (T78.setTop (mkF m 277 #[.val (.int p0), .val (.int p1), .val (.int p2), .val (.int p3), .val (.int p4), .val (.int p5), .val (.int (3 : Int32)), .val (.int md), .val (.int ca), .val (.int d0), .val (.int d1), .val (.int d2), .val (.int y2), .val (.ref b1), .val (.int qq), .val (.int y2)] [(.int y2), (.int r78)]))
              have hc277_79 : r78.toInt = y2.toInt := by
                  rcases hr78 with ⟨i, hi, e, hr⟩ | ⟨hall, hr⟩
                  · have : i = 0 ∨ i = 1 ∨ i = 2 := by omega
                    rcases this with rfl | rfl | rfl
                    · rw [ef3_0] at e; rw [hr, eg3_0] <;> first | rfl | omega
                    · rw [ef3_1] at e; rw [hr, eg3_1] <;> first | rfl | omega
                    · rw [ef3_2] at e; rw [hr, eg3_2] <;> first | rfl | omega
                  · have h0a := hall 0 (by decide); rw [ef3_0] at h0a; have h1a := hall 1 (by decide); rw [ef3_1] at h1a; have h2a := hall 2 (by decide); rw [ef3_2] at h2a; rw [hr] <;> first | rfl | omega
              refine OwnGo.fwd (fun tq' kq' => XS.icmpNo X78.here hx rfl (hb hby at_277) rfl (own_beq rfl rfl hc277_79).2 kq') ?_
              show OwnGo _ _ _ _ (T78.setTop (mkF m 280 #[.val (.int p0), .val (.int p1), .val (.int p2), .val (.int p3), .val (.int p4), .val (.int p5), .val (.int (3 : Int32)), .val (.int md), .val (.int ca), .val (.int d0), .val (.int d1), .val (.int d2), .val (.int y2), .val (.ref b1), .val (.int qq), .val (.int y2)] []))
              refine OwnGo.fwd (fun tq' kq' => XS.iconst X78.here hx rfl (hb hby at_280) kq') ?_
              show OwnGo _ _ _ _ (T78.setTop (mkF m 281 #[.val (.int p0), .val (.int p1), .val (.int p2), .val (.int p3), .val (.int p4), .val (.int p5), .val (.int (3 : Int32)), .val (.int md), .val (.int ca), .val (.int d0), .val (.int d1), .val (.int d2), .val (.int y2), .val (.ref b1), .val (.int qq), .val (.int y2)] [(.int (1 : Int32))]))
              refine OwnGo.fwd (fun tq' kq' => XS.goto X78.here hx rfl (pc0 := 281) (pc' := 285) rfl (hb hby at_281) (by decide) (by decide) kq') ?_
              show OwnGo _ _ _ _ (T78.setTop (mkF m 285 #[.val (.int p0), .val (.int p1), .val (.int p2), .val (.int p3), .val (.int p4), .val (.int p5), .val (.int (3 : Int32)), .val (.int md), .val (.int ca), .val (.int d0), .val (.int d1), .val (.int d2), .val (.int y2), .val (.ref b1), .val (.int qq), .val (.int y2)] [(.int (1 : Int32))]))
              exact own_retZ X78 hlk hx Bd.returns (hb hby at_285) (by decide) (by decide) e78 ⟨rfl, N⟩
            · refine OwnGo.fwd (fun tq' kq' => XS.icmpYes X71.here hx rfl (pc0 := 261) (pc' := 268) rfl (hb hby at_261) rfl (own_bneq rfl rfl hc261_77).2 (by decide) (by decide) kq') ?_
              show OwnGo _ _ _ _ (T71.setTop (mkF m 268 #[.val (.int p0), .val (.int p1), .val (.int p2), .val (.int p3), .val (.int p4), .val (.int p5), .val (.int (3 : Int32)), .val (.int md), .val (.int ca), .val (.int d0), .val (.int d1), .val (.int d2), .val (.int y2), .val (.ref b1), .val (.int qq), .val (.int p4)] []))
              refine OwnGo.fwd (fun tq' kq' => XS.aload X71.here hx rfl (hb hby at_268) rfl rfl kq') ?_
              show OwnGo _ _ _ _ (T71.setTop (mkF m 270 #[.val (.int p0), .val (.int p1), .val (.int p2), .val (.int p3), .val (.int p4), .val (.int p5), .val (.int (3 : Int32)), .val (.int md), .val (.int ca), .val (.int d0), .val (.int d1), .val (.int d2), .val (.int y2), .val (.ref b1), .val (.int qq), .val (.int p4)] [(.ref b1)]))
              refine OwnGo.fwd (fun tq' kq' => XS.iload X71.here hx rfl (hb hby at_270) rfl kq') ?_
              show OwnGo _ _ _ _ (T71.setTop (mkF m 272 #[.val (.int p0), .val (.int p1), .val (.int p2), .val (.int p3), .val (.int p4), .val (.int p5), .val (.int (3 : Int32)), .val (.int md), .val (.int ca), .val (.int d0), .val (.int d1), .val (.int d2), .val (.int y2), .val (.ref b1), .val (.int qq), .val (.int p4)] [(.int qq), (.ref b1)]))
              obtain ⟨cq80, kq80, q80a, q80b, q80c⟩ := isOf hZ eh71.symm E_b1
              obtain ⟨_, _, ⟨T80, L80, k80, n80⟩, -, X80, ⟨Lc80, hQ80, l80, y80, z80⟩, st80⟩ := X71.virtualBack hx (y := (⟨"com/example/inverse_frequency/inversefrequency/Postings", "frequencyIn", "(I)I"⟩ : MethodName)) (z := (⟨"com/example/inverse_frequency/inversefrequency/Postings", "frequencyIn", "(I)I"⟩ : MethodName)) hown (mvT hZ (hw _ (List.mem_of_getElem? (i := 19) rfl))) (mvT hZ (hw _ (List.mem_of_getElem? (i := 20) rfl))) (notFace_of_selects (args := #[]) (mvT hZ (hw _ (List.mem_of_getElem? (i := 22) rfl)))) (mvT hZ (hw _ (List.mem_of_getElem? (i := 22) rfl))) (mvT hZ (hw _ (List.mem_of_getElem? (i := 21) rfl))) (by decide) (backOf (W := 0) (rm4n3 l Z a0 hw [] b1 da3 fa3 ((((0 : Int64) + p3.toInt64) + p4.toInt64) + y2.toInt64) cp3 f3 g3 qq h71 n0 Zs ⟨E_b1, F_documents_b1, F_frequencies_b1, F_size_b1, F_totalFrequency_b1, V_da3, V_fa3, ne_b1_da3, ne_b1_fa3, ne_da3_fa3, g_b1, g_da3, g_fa3⟩ (by omega) (by rw [ef3_0, ef3_1]; exact h01) (by rw [ef3_1, ef3_2]; exact h12)) hZ (hw _ (List.mem_of_getElem? (i := 23) rfl)) (hw _ (List.mem_of_getElem? (i := 3) rfl)) (by decide) (by decide)) q80a q80c (g := (mkF m 272 #[.val (.int p0), .val (.int p1), .val (.int p2), .val (.int p3), .val (.int p4), .val (.int p5), .val (.int (3 : Int32)), .val (.int md), .val (.int ca), .val (.int d0), .val (.int d1), .val (.int d2), .val (.int y2), .val (.ref b1), .val (.int qq), .val (.int p4)] [(.int qq), (.ref b1)])) rfl (by rw [hml]; rfl) (Steps.refl _) (argsL := [(.int qq)]) (rest := []) (lenOf pd_3 rfl) rfl (by show 2 * 0 + _ ≤ _; exact Nat.le_of_eq rfl) (hb hby at_272) (fun _ _ => ⟨rfl, eh71.symm, (by decide : 9 + 0 ≤ _), (by decide : 38 + 0 ≤ _)⟩)
              dsimp only [Pt.U, Pt.locs, Pt.cells, Pt.slots] at X80 l80 y80 z80 st80 hQ80
              subst l80 y80 z80
              obtain ⟨N80q, e80, r80, rfl, hr80⟩ := hQ80
              have N := Fr.app N N80q
              refine OwnGo.thru st80 ?_
              show OwnGo _ _ _ _ (T80.setTop (mkF m 275 #[.val (.int p0), .val (.int p1), .val (.int p2), .val (.int p3), .val (.int p4), .val (.int p5), .val (.int (3 : Int32)), .val (.int md), .val (.int ca), .val (.int d0), .val (.int d1), .val (.int d2), .val (.int y2), .val (.ref b1), .val (.int qq), .val (.int p4)] [(.int r80)]))
              refine OwnGo.fwd (fun tq' kq' => XS.iload X80.here hx rfl (hb hby at_275) rfl kq') ?_
              show OwnGo _ _ _ _ (T80.setTop (mkF m 277 #[.val (.int p0), .val (.int p1), .val (.int p2), .val (.int p3), .val (.int p4), .val (.int p5), .val (.int (3 : Int32)), .val (.int md), .val (.int ca), .val (.int d0), .val (.int d1), .val (.int d2), .val (.int y2), .val (.ref b1), .val (.int qq), .val (.int p4)] [(.int p4), (.int r80)]))
              have hc277_81 : r80.toInt = p4.toInt := by
                  rcases hr80 with ⟨i, hi, e, hr⟩ | ⟨hall, hr⟩
                  · have : i = 0 ∨ i = 1 ∨ i = 2 := by omega
                    rcases this with rfl | rfl | rfl
                    · rw [ef3_0] at e; rw [hr, eg3_0] <;> first | rfl | omega
                    · rw [ef3_1] at e; rw [hr, eg3_1] <;> first | rfl | omega
                    · rw [ef3_2] at e; rw [hr, eg3_2] <;> first | rfl | omega
                  · have h0a := hall 0 (by decide); rw [ef3_0] at h0a; have h1a := hall 1 (by decide); rw [ef3_1] at h1a; have h2a := hall 2 (by decide); rw [ef3_2] at h2a; rw [hr] <;> first | rfl | omega
              refine OwnGo.fwd (fun tq' kq' => XS.icmpNo X80.here hx rfl (hb hby at_277) rfl (own_beq rfl rfl hc277_81).2 kq') ?_
              show OwnGo _ _ _ _ (T80.setTop (mkF m 280 #[.val (.int p0), .val (.int p1), .val (.int p2), .val (.int p3), .val (.int p4), .val (.int p5), .val (.int (3 : Int32)), .val (.int md), .val (.int ca), .val (.int d0), .val (.int d1), .val (.int d2), .val (.int y2), .val (.ref b1), .val (.int qq), .val (.int p4)] []))
              refine OwnGo.fwd (fun tq' kq' => XS.iconst X80.here hx rfl (hb hby at_280) kq') ?_
              show OwnGo _ _ _ _ (T80.setTop (mkF m 281 #[.val (.int p0), .val (.int p1), .val (.int p2), .val (.int p3), .val (.int p4), .val (.int p5), .val (.int (3 : Int32)), .val (.int md), .val (.int ca), .val (.int d0), .val (.int d1), .val (.int d2), .val (.int y2), .val (.ref b1), .val (.int qq), .val (.int p4)] [(.int (1 : Int32))]))
              refine OwnGo.fwd (fun tq' kq' => XS.goto X80.here hx rfl (pc0 := 281) (pc' := 285) rfl (hb hby at_281) (by decide) (by decide) kq') ?_
              show OwnGo _ _ _ _ (T80.setTop (mkF m 285 #[.val (.int p0), .val (.int p1), .val (.int p2), .val (.int p3), .val (.int p4), .val (.int p5), .val (.int (3 : Int32)), .val (.int md), .val (.int ca), .val (.int d0), .val (.int d1), .val (.int d2), .val (.int y2), .val (.ref b1), .val (.int qq), .val (.int p4)] [(.int (1 : Int32))]))
              exact own_retZ X80 hlk hx Bd.returns (hb hby at_285) (by decide) (by decide) e80 ⟨rfl, N⟩
          · refine OwnGo.fwd (fun tq' kq' => XS.icmpYes X71.here hx rfl (pc0 := 244) (pc' := 251) rfl (hb hby at_244) rfl (own_bneq rfl rfl hc244_75).2 (by decide) (by decide) kq') ?_
            show OwnGo _ _ _ _ (T71.setTop (mkF m 251 #[.val (.int p0), .val (.int p1), .val (.int p2), .val (.int p3), .val (.int p4), .val (.int p5), .val (.int (3 : Int32)), .val (.int md), .val (.int ca), .val (.int d0), .val (.int d1), .val (.int d2), .val (.int y2), .val (.ref b1), .val (.int qq), .val (.int p3)] []))
            refine OwnGo.fwd (fun tq' kq' => XS.iload X71.here hx rfl (hb hby at_251) rfl kq') ?_
            show OwnGo _ _ _ _ (T71.setTop (mkF m 253 #[.val (.int p0), .val (.int p1), .val (.int p2), .val (.int p3), .val (.int p4), .val (.int p5), .val (.int (3 : Int32)), .val (.int md), .val (.int ca), .val (.int d0), .val (.int d1), .val (.int d2), .val (.int y2), .val (.ref b1), .val (.int qq), .val (.int p3)] [(.int (3 : Int32))]))
            refine OwnGo.fwd (fun tq' kq' => XS.iconst X71.here hx rfl (hb hby at_253) kq') ?_
            show OwnGo _ _ _ _ (T71.setTop (mkF m 254 #[.val (.int p0), .val (.int p1), .val (.int p2), .val (.int p3), .val (.int p4), .val (.int p5), .val (.int (3 : Int32)), .val (.int md), .val (.int ca), .val (.int d0), .val (.int d1), .val (.int d2), .val (.int y2), .val (.ref b1), .val (.int qq), .val (.int p3)] [(.int (2 : Int32)), (.int (3 : Int32))]))
            have hc254_82 : (2 : Int) < (3 : Int) := by decide
            refine OwnGo.fwd (fun tq' kq' => XS.icmpNo X71.here hx rfl (hb hby at_254) rfl (own_blt (by decide) (by decide) hc254_82).2.2.2 kq') ?_
            show OwnGo _ _ _ _ (T71.setTop (mkF m 257 #[.val (.int p0), .val (.int p1), .val (.int p2), .val (.int p3), .val (.int p4), .val (.int p5), .val (.int (3 : Int32)), .val (.int md), .val (.int ca), .val (.int d0), .val (.int d1), .val (.int d2), .val (.int y2), .val (.ref b1), .val (.int qq), .val (.int p3)] []))
            refine OwnGo.fwd (fun tq' kq' => XS.iload X71.here hx rfl (hb hby at_257) rfl kq') ?_
            show OwnGo _ _ _ _ (T71.setTop (mkF m 259 #[.val (.int p0), .val (.int p1), .val (.int p2), .val (.int p3), .val (.int p4), .val (.int p5), .val (.int (3 : Int32)), .val (.int md), .val (.int ca), .val (.int d0), .val (.int d1), .val (.int d2), .val (.int y2), .val (.ref b1), .val (.int qq), .val (.int p3)] [(.int qq)]))
            refine OwnGo.fwd (fun tq' kq' => XS.iload X71.here hx rfl (hb hby at_259) rfl kq') ?_
            show OwnGo _ _ _ _ (T71.setTop (mkF m 261 #[.val (.int p0), .val (.int p1), .val (.int p2), .val (.int p3), .val (.int p4), .val (.int p5), .val (.int (3 : Int32)), .val (.int md), .val (.int ca), .val (.int d0), .val (.int d1), .val (.int d2), .val (.int y2), .val (.ref b1), .val (.int qq), .val (.int p3)] [(.int d2), (.int qq)]))
            by_cases hc261_83 : qq.toInt = d2.toInt
            · refine OwnGo.fwd (fun tq' kq' => XS.icmpNo X71.here hx rfl (hb hby at_261) rfl (own_beq rfl rfl hc261_83).2 kq') ?_
              show OwnGo _ _ _ _ (T71.setTop (mkF m 264 #[.val (.int p0), .val (.int p1), .val (.int p2), .val (.int p3), .val (.int p4), .val (.int p5), .val (.int (3 : Int32)), .val (.int md), .val (.int ca), .val (.int d0), .val (.int d1), .val (.int d2), .val (.int y2), .val (.ref b1), .val (.int qq), .val (.int p3)] []))
              refine OwnGo.fwd (fun tq' kq' => XS.iload X71.here hx rfl (hb hby at_264) rfl kq') ?_
              show OwnGo _ _ _ _ (T71.setTop (mkF m 266 #[.val (.int p0), .val (.int p1), .val (.int p2), .val (.int p3), .val (.int p4), .val (.int p5), .val (.int (3 : Int32)), .val (.int md), .val (.int ca), .val (.int d0), .val (.int d1), .val (.int d2), .val (.int y2), .val (.ref b1), .val (.int qq), .val (.int p3)] [(.int y2)]))
              refine OwnGo.fwd (fun tq' kq' => XS.istore X71.here hx rfl (hb hby at_266) rfl (l' := #[.val (.int p0), .val (.int p1), .val (.int p2), .val (.int p3), .val (.int p4), .val (.int p5), .val (.int (3 : Int32)), .val (.int md), .val (.int ca), .val (.int d0), .val (.int d1), .val (.int d2), .val (.int y2), .val (.ref b1), .val (.int qq), .val (.int y2)]) rfl kq') ?_
              show OwnGo _ _ _ _ (T71.setTop (mkF m 268 #[.val (.int p0), .val (.int p1), .val (.int p2), .val (.int p3), .val (.int p4), .val (.int p5), .val (.int (3 : Int32)), .val (.int md), .val (.int ca), .val (.int d0), .val (.int d1), .val (.int d2), .val (.int y2), .val (.ref b1), .val (.int qq), .val (.int y2)] []))
              refine OwnGo.fwd (fun tq' kq' => XS.aload X71.here hx rfl (hb hby at_268) rfl rfl kq') ?_
              show OwnGo _ _ _ _ (T71.setTop (mkF m 270 #[.val (.int p0), .val (.int p1), .val (.int p2), .val (.int p3), .val (.int p4), .val (.int p5), .val (.int (3 : Int32)), .val (.int md), .val (.int ca), .val (.int d0), .val (.int d1), .val (.int d2), .val (.int y2), .val (.ref b1), .val (.int qq), .val (.int y2)] [(.ref b1)]))
              refine OwnGo.fwd (fun tq' kq' => XS.iload X71.here hx rfl (hb hby at_270) rfl kq') ?_
              show OwnGo _ _ _ _ (T71.setTop (mkF m 272 #[.val (.int p0), .val (.int p1), .val (.int p2), .val (.int p3), .val (.int p4), .val (.int p5), .val (.int (3 : Int32)), .val (.int md), .val (.int ca), .val (.int d0), .val (.int d1), .val (.int d2), .val (.int y2), .val (.ref b1), .val (.int qq), .val (.int y2)] [(.int qq), (.ref b1)]))
              obtain ⟨cq84, kq84, q84a, q84b, q84c⟩ := isOf hZ eh71.symm E_b1
              obtain ⟨_, _, ⟨T84, L84, k84, n84⟩, -, X84, ⟨Lc84, hQ84, l84, y84, z84⟩, st84⟩ := X71.virtualBack hx (y := (⟨"com/example/inverse_frequency/inversefrequency/Postings", "frequencyIn", "(I)I"⟩ : MethodName)) (z := (⟨"com/example/inverse_frequency/inversefrequency/Postings", "frequencyIn", "(I)I"⟩ : MethodName)) hown (mvT hZ (hw _ (List.mem_of_getElem? (i := 19) rfl))) (mvT hZ (hw _ (List.mem_of_getElem? (i := 20) rfl))) (notFace_of_selects (args := #[]) (mvT hZ (hw _ (List.mem_of_getElem? (i := 22) rfl)))) (mvT hZ (hw _ (List.mem_of_getElem? (i := 22) rfl))) (mvT hZ (hw _ (List.mem_of_getElem? (i := 21) rfl))) (by decide) (backOf (W := 0) (rm4n3 l Z a0 hw [] b1 da3 fa3 ((((0 : Int64) + p3.toInt64) + p4.toInt64) + y2.toInt64) cp3 f3 g3 qq h71 n0 Zs ⟨E_b1, F_documents_b1, F_frequencies_b1, F_size_b1, F_totalFrequency_b1, V_da3, V_fa3, ne_b1_da3, ne_b1_fa3, ne_da3_fa3, g_b1, g_da3, g_fa3⟩ (by omega) (by rw [ef3_0, ef3_1]; exact h01) (by rw [ef3_1, ef3_2]; exact h12)) hZ (hw _ (List.mem_of_getElem? (i := 23) rfl)) (hw _ (List.mem_of_getElem? (i := 3) rfl)) (by decide) (by decide)) q84a q84c (g := (mkF m 272 #[.val (.int p0), .val (.int p1), .val (.int p2), .val (.int p3), .val (.int p4), .val (.int p5), .val (.int (3 : Int32)), .val (.int md), .val (.int ca), .val (.int d0), .val (.int d1), .val (.int d2), .val (.int y2), .val (.ref b1), .val (.int qq), .val (.int y2)] [(.int qq), (.ref b1)])) rfl (by rw [hml]; rfl) (Steps.refl _) (argsL := [(.int qq)]) (rest := []) (lenOf pd_3 rfl) rfl (by show 2 * 0 + _ ≤ _; exact Nat.le_of_eq rfl) (hb hby at_272) (fun _ _ => ⟨rfl, eh71.symm, (by decide : 9 + 0 ≤ _), (by decide : 38 + 0 ≤ _)⟩)
              dsimp only [Pt.U, Pt.locs, Pt.cells, Pt.slots] at X84 l84 y84 z84 st84 hQ84
              subst l84 y84 z84
              obtain ⟨N84q, e84, r84, rfl, hr84⟩ := hQ84
              have N := Fr.app N N84q
              refine OwnGo.thru st84 ?_
              show OwnGo _ _ _ _ (T84.setTop (mkF m 275 #[.val (.int p0), .val (.int p1), .val (.int p2), .val (.int p3), .val (.int p4), .val (.int p5), .val (.int (3 : Int32)), .val (.int md), .val (.int ca), .val (.int d0), .val (.int d1), .val (.int d2), .val (.int y2), .val (.ref b1), .val (.int qq), .val (.int y2)] [(.int r84)]))
              refine OwnGo.fwd (fun tq' kq' => XS.iload X84.here hx rfl (hb hby at_275) rfl kq') ?_
              show OwnGo _ _ _ _ (T84.setTop (mkF m 277 #[.val (.int p0), .val (.int p1), .val (.int p2), .val (.int p3), .val (.int p4), .val (.int p5), .val (.int (3 : Int32)), .val (.int md), .val (.int ca), .val (.int d0), .val (.int d1), .val (.int d2), .val (.int y2), .val (.ref b1), .val (.int qq), .val (.int y2)] [(.int y2), (.int r84)]))
              have hc277_85 : r84.toInt = y2.toInt := by
                  rcases hr84 with ⟨i, hi, e, hr⟩ | ⟨hall, hr⟩
                  · have : i = 0 ∨ i = 1 ∨ i = 2 := by omega
                    rcases this with rfl | rfl | rfl
                    · rw [ef3_0] at e; rw [hr, eg3_0] <;> first | rfl | omega
                    · rw [ef3_1] at e; rw [hr, eg3_1] <;> first | rfl | omega
                    · rw [ef3_2] at e; rw [hr, eg3_2] <;> first | rfl | omega
                  · have h0a := hall 0 (by decide); rw [ef3_0] at h0a; have h1a := hall 1 (by decide); rw [ef3_1] at h1a; have h2a := hall 2 (by decide); rw [ef3_2] at h2a; rw [hr] <;> first | rfl | omega
              refine OwnGo.fwd (fun tq' kq' => XS.icmpNo X84.here hx rfl (hb hby at_277) rfl (own_beq rfl rfl hc277_85).2 kq') ?_
              show OwnGo _ _ _ _ (T84.setTop (mkF m 280 #[.val (.int p0), .val (.int p1), .val (.int p2), .val (.int p3), .val (.int p4), .val (.int p5), .val (.int (3 : Int32)), .val (.int md), .val (.int ca), .val (.int d0), .val (.int d1), .val (.int d2), .val (.int y2), .val (.ref b1), .val (.int qq), .val (.int y2)] []))
              refine OwnGo.fwd (fun tq' kq' => XS.iconst X84.here hx rfl (hb hby at_280) kq') ?_
              show OwnGo _ _ _ _ (T84.setTop (mkF m 281 #[.val (.int p0), .val (.int p1), .val (.int p2), .val (.int p3), .val (.int p4), .val (.int p5), .val (.int (3 : Int32)), .val (.int md), .val (.int ca), .val (.int d0), .val (.int d1), .val (.int d2), .val (.int y2), .val (.ref b1), .val (.int qq), .val (.int y2)] [(.int (1 : Int32))]))
              refine OwnGo.fwd (fun tq' kq' => XS.goto X84.here hx rfl (pc0 := 281) (pc' := 285) rfl (hb hby at_281) (by decide) (by decide) kq') ?_
              show OwnGo _ _ _ _ (T84.setTop (mkF m 285 #[.val (.int p0), .val (.int p1), .val (.int p2), .val (.int p3), .val (.int p4), .val (.int p5), .val (.int (3 : Int32)), .val (.int md), .val (.int ca), .val (.int d0), .val (.int d1), .val (.int d2), .val (.int y2), .val (.ref b1), .val (.int qq), .val (.int y2)] [(.int (1 : Int32))]))
              exact own_retZ X84 hlk hx Bd.returns (hb hby at_285) (by decide) (by decide) e84 ⟨rfl, N⟩
            · refine OwnGo.fwd (fun tq' kq' => XS.icmpYes X71.here hx rfl (pc0 := 261) (pc' := 268) rfl (hb hby at_261) rfl (own_bneq rfl rfl hc261_83).2 (by decide) (by decide) kq') ?_
              show OwnGo _ _ _ _ (T71.setTop (mkF m 268 #[.val (.int p0), .val (.int p1), .val (.int p2), .val (.int p3), .val (.int p4), .val (.int p5), .val (.int (3 : Int32)), .val (.int md), .val (.int ca), .val (.int d0), .val (.int d1), .val (.int d2), .val (.int y2), .val (.ref b1), .val (.int qq), .val (.int p3)] []))
              refine OwnGo.fwd (fun tq' kq' => XS.aload X71.here hx rfl (hb hby at_268) rfl rfl kq') ?_
              show OwnGo _ _ _ _ (T71.setTop (mkF m 270 #[.val (.int p0), .val (.int p1), .val (.int p2), .val (.int p3), .val (.int p4), .val (.int p5), .val (.int (3 : Int32)), .val (.int md), .val (.int ca), .val (.int d0), .val (.int d1), .val (.int d2), .val (.int y2), .val (.ref b1), .val (.int qq), .val (.int p3)] [(.ref b1)]))
              refine OwnGo.fwd (fun tq' kq' => XS.iload X71.here hx rfl (hb hby at_270) rfl kq') ?_
              show OwnGo _ _ _ _ (T71.setTop (mkF m 272 #[.val (.int p0), .val (.int p1), .val (.int p2), .val (.int p3), .val (.int p4), .val (.int p5), .val (.int (3 : Int32)), .val (.int md), .val (.int ca), .val (.int d0), .val (.int d1), .val (.int d2), .val (.int y2), .val (.ref b1), .val (.int qq), .val (.int p3)] [(.int qq), (.ref b1)]))
              obtain ⟨cq86, kq86, q86a, q86b, q86c⟩ := isOf hZ eh71.symm E_b1
              obtain ⟨_, _, ⟨T86, L86, k86, n86⟩, -, X86, ⟨Lc86, hQ86, l86, y86, z86⟩, st86⟩ := X71.virtualBack hx (y := (⟨"com/example/inverse_frequency/inversefrequency/Postings", "frequencyIn", "(I)I"⟩ : MethodName)) (z := (⟨"com/example/inverse_frequency/inversefrequency/Postings", "frequencyIn", "(I)I"⟩ : MethodName)) hown (mvT hZ (hw _ (List.mem_of_getElem? (i := 19) rfl))) (mvT hZ (hw _ (List.mem_of_getElem? (i := 20) rfl))) (notFace_of_selects (args := #[]) (mvT hZ (hw _ (List.mem_of_getElem? (i := 22) rfl)))) (mvT hZ (hw _ (List.mem_of_getElem? (i := 22) rfl))) (mvT hZ (hw _ (List.mem_of_getElem? (i := 21) rfl))) (by decide) (backOf (W := 0) (rm4n3 l Z a0 hw [] b1 da3 fa3 ((((0 : Int64) + p3.toInt64) + p4.toInt64) + y2.toInt64) cp3 f3 g3 qq h71 n0 Zs ⟨E_b1, F_documents_b1, F_frequencies_b1, F_size_b1, F_totalFrequency_b1, V_da3, V_fa3, ne_b1_da3, ne_b1_fa3, ne_da3_fa3, g_b1, g_da3, g_fa3⟩ (by omega) (by rw [ef3_0, ef3_1]; exact h01) (by rw [ef3_1, ef3_2]; exact h12)) hZ (hw _ (List.mem_of_getElem? (i := 23) rfl)) (hw _ (List.mem_of_getElem? (i := 3) rfl)) (by decide) (by decide)) q86a q86c (g := (mkF m 272 #[.val (.int p0), .val (.int p1), .val (.int p2), .val (.int p3), .val (.int p4), .val (.int p5), .val (.int (3 : Int32)), .val (.int md), .val (.int ca), .val (.int d0), .val (.int d1), .val (.int d2), .val (.int y2), .val (.ref b1), .val (.int qq), .val (.int p3)] [(.int qq), (.ref b1)])) rfl (by rw [hml]; rfl) (Steps.refl _) (argsL := [(.int qq)]) (rest := []) (lenOf pd_3 rfl) rfl (by show 2 * 0 + _ ≤ _; exact Nat.le_of_eq rfl) (hb hby at_272) (fun _ _ => ⟨rfl, eh71.symm, (by decide : 9 + 0 ≤ _), (by decide : 38 + 0 ≤ _)⟩)
              dsimp only [Pt.U, Pt.locs, Pt.cells, Pt.slots] at X86 l86 y86 z86 st86 hQ86
              subst l86 y86 z86
              obtain ⟨N86q, e86, r86, rfl, hr86⟩ := hQ86
              have N := Fr.app N N86q
              refine OwnGo.thru st86 ?_
              show OwnGo _ _ _ _ (T86.setTop (mkF m 275 #[.val (.int p0), .val (.int p1), .val (.int p2), .val (.int p3), .val (.int p4), .val (.int p5), .val (.int (3 : Int32)), .val (.int md), .val (.int ca), .val (.int d0), .val (.int d1), .val (.int d2), .val (.int y2), .val (.ref b1), .val (.int qq), .val (.int p3)] [(.int r86)]))
              refine OwnGo.fwd (fun tq' kq' => XS.iload X86.here hx rfl (hb hby at_275) rfl kq') ?_
              show OwnGo _ _ _ _ (T86.setTop (mkF m 277 #[.val (.int p0), .val (.int p1), .val (.int p2), .val (.int p3), .val (.int p4), .val (.int p5), .val (.int (3 : Int32)), .val (.int md), .val (.int ca), .val (.int d0), .val (.int d1), .val (.int d2), .val (.int y2), .val (.ref b1), .val (.int qq), .val (.int p3)] [(.int p3), (.int r86)]))
              have hc277_87 : r86.toInt = p3.toInt := by
                  rcases hr86 with ⟨i, hi, e, hr⟩ | ⟨hall, hr⟩
                  · have : i = 0 ∨ i = 1 ∨ i = 2 := by omega
                    rcases this with rfl | rfl | rfl
                    · rw [ef3_0] at e; rw [hr, eg3_0] <;> first | rfl | omega
                    · rw [ef3_1] at e; rw [hr, eg3_1] <;> first | rfl | omega
                    · rw [ef3_2] at e; rw [hr, eg3_2] <;> first | rfl | omega
                  · have h0a := hall 0 (by decide); rw [ef3_0] at h0a; have h1a := hall 1 (by decide); rw [ef3_1] at h1a; have h2a := hall 2 (by decide); rw [ef3_2] at h2a; rw [hr] <;> first | rfl | omega
              refine OwnGo.fwd (fun tq' kq' => XS.icmpNo X86.here hx rfl (hb hby at_277) rfl (own_beq rfl rfl hc277_87).2 kq') ?_
              show OwnGo _ _ _ _ (T86.setTop (mkF m 280 #[.val (.int p0), .val (.int p1), .val (.int p2), .val (.int p3), .val (.int p4), .val (.int p5), .val (.int (3 : Int32)), .val (.int md), .val (.int ca), .val (.int d0), .val (.int d1), .val (.int d2), .val (.int y2), .val (.ref b1), .val (.int qq), .val (.int p3)] []))
              refine OwnGo.fwd (fun tq' kq' => XS.iconst X86.here hx rfl (hb hby at_280) kq') ?_
              show OwnGo _ _ _ _ (T86.setTop (mkF m 281 #[.val (.int p0), .val (.int p1), .val (.int p2), .val (.int p3), .val (.int p4), .val (.int p5), .val (.int (3 : Int32)), .val (.int md), .val (.int ca), .val (.int d0), .val (.int d1), .val (.int d2), .val (.int y2), .val (.ref b1), .val (.int qq), .val (.int p3)] [(.int (1 : Int32))]))
              refine OwnGo.fwd (fun tq' kq' => XS.goto X86.here hx rfl (pc0 := 281) (pc' := 285) rfl (hb hby at_281) (by decide) (by decide) kq') ?_
              show OwnGo _ _ _ _ (T86.setTop (mkF m 285 #[.val (.int p0), .val (.int p1), .val (.int p2), .val (.int p3), .val (.int p4), .val (.int p5), .val (.int (3 : Int32)), .val (.int md), .val (.int ca), .val (.int d0), .val (.int d1), .val (.int d2), .val (.int y2), .val (.ref b1), .val (.int qq), .val (.int p3)] [(.int (1 : Int32))]))
              exact own_retZ X86 hlk hx Bd.returns (hb hby at_285) (by decide) (by decide) e86 ⟨rfl, N⟩
        · refine OwnGo.fwd (fun tq' kq' => XS.icmpYes X71.here hx rfl (pc0 := 228) (pc' := 234) rfl (hb hby at_228) rfl (own_bneq rfl rfl hc228_73).2 (by decide) (by decide) kq') ?_
          show OwnGo _ _ _ _ (T71.setTop (mkF m 234 #[.val (.int p0), .val (.int p1), .val (.int p2), .val (.int p3), .val (.int p4), .val (.int p5), .val (.int (3 : Int32)), .val (.int md), .val (.int ca), .val (.int d0), .val (.int d1), .val (.int d2), .val (.int y2), .val (.ref b1), .val (.int qq), .val (.int (0 : Int32))] []))
          refine OwnGo.fwd (fun tq' kq' => XS.iload X71.here hx rfl (hb hby at_234) rfl kq') ?_
          show OwnGo _ _ _ _ (T71.setTop (mkF m 236 #[.val (.int p0), .val (.int p1), .val (.int p2), .val (.int p3), .val (.int p4), .val (.int p5), .val (.int (3 : Int32)), .val (.int md), .val (.int ca), .val (.int d0), .val (.int d1), .val (.int d2), .val (.int y2), .val (.ref b1), .val (.int qq), .val (.int (0 : Int32))] [(.int (3 : Int32))]))
          refine OwnGo.fwd (fun tq' kq' => XS.iconst X71.here hx rfl (hb hby at_236) kq') ?_
          show OwnGo _ _ _ _ (T71.setTop (mkF m 237 #[.val (.int p0), .val (.int p1), .val (.int p2), .val (.int p3), .val (.int p4), .val (.int p5), .val (.int (3 : Int32)), .val (.int md), .val (.int ca), .val (.int d0), .val (.int d1), .val (.int d2), .val (.int y2), .val (.ref b1), .val (.int qq), .val (.int (0 : Int32))] [(.int (1 : Int32)), (.int (3 : Int32))]))
          have hc237_88 : (1 : Int) < (3 : Int) := by decide
          refine OwnGo.fwd (fun tq' kq' => XS.icmpNo X71.here hx rfl (hb hby at_237) rfl (own_blt (by decide) (by decide) hc237_88).2.2.2 kq') ?_
          show OwnGo _ _ _ _ (T71.setTop (mkF m 240 #[.val (.int p0), .val (.int p1), .val (.int p2), .val (.int p3), .val (.int p4), .val (.int p5), .val (.int (3 : Int32)), .val (.int md), .val (.int ca), .val (.int d0), .val (.int d1), .val (.int d2), .val (.int y2), .val (.ref b1), .val (.int qq), .val (.int (0 : Int32))] []))
          refine OwnGo.fwd (fun tq' kq' => XS.iload X71.here hx rfl (hb hby at_240) rfl kq') ?_
          show OwnGo _ _ _ _ (T71.setTop (mkF m 242 #[.val (.int p0), .val (.int p1), .val (.int p2), .val (.int p3), .val (.int p4), .val (.int p5), .val (.int (3 : Int32)), .val (.int md), .val (.int ca), .val (.int d0), .val (.int d1), .val (.int d2), .val (.int y2), .val (.ref b1), .val (.int qq), .val (.int (0 : Int32))] [(.int qq)]))
          refine OwnGo.fwd (fun tq' kq' => XS.iload X71.here hx rfl (hb hby at_242) rfl kq') ?_
          show OwnGo _ _ _ _ (T71.setTop (mkF m 244 #[.val (.int p0), .val (.int p1), .val (.int p2), .val (.int p3), .val (.int p4), .val (.int p5), .val (.int (3 : Int32)), .val (.int md), .val (.int ca), .val (.int d0), .val (.int d1), .val (.int d2), .val (.int y2), .val (.ref b1), .val (.int qq), .val (.int (0 : Int32))] [(.int d1), (.int qq)]))
          by_cases hc244_89 : qq.toInt = d1.toInt
          · refine OwnGo.fwd (fun tq' kq' => XS.icmpNo X71.here hx rfl (hb hby at_244) rfl (own_beq rfl rfl hc244_89).2 kq') ?_
            show OwnGo _ _ _ _ (T71.setTop (mkF m 247 #[.val (.int p0), .val (.int p1), .val (.int p2), .val (.int p3), .val (.int p4), .val (.int p5), .val (.int (3 : Int32)), .val (.int md), .val (.int ca), .val (.int d0), .val (.int d1), .val (.int d2), .val (.int y2), .val (.ref b1), .val (.int qq), .val (.int (0 : Int32))] []))
            refine OwnGo.fwd (fun tq' kq' => XS.iload X71.here hx rfl (hb hby at_247) rfl kq') ?_
            show OwnGo _ _ _ _ (T71.setTop (mkF m 249 #[.val (.int p0), .val (.int p1), .val (.int p2), .val (.int p3), .val (.int p4), .val (.int p5), .val (.int (3 : Int32)), .val (.int md), .val (.int ca), .val (.int d0), .val (.int d1), .val (.int d2), .val (.int y2), .val (.ref b1), .val (.int qq), .val (.int (0 : Int32))] [(.int p4)]))
            refine OwnGo.fwd (fun tq' kq' => XS.istore X71.here hx rfl (hb hby at_249) rfl (l' := #[.val (.int p0), .val (.int p1), .val (.int p2), .val (.int p3), .val (.int p4), .val (.int p5), .val (.int (3 : Int32)), .val (.int md), .val (.int ca), .val (.int d0), .val (.int d1), .val (.int d2), .val (.int y2), .val (.ref b1), .val (.int qq), .val (.int p4)]) rfl kq') ?_
            show OwnGo _ _ _ _ (T71.setTop (mkF m 251 #[.val (.int p0), .val (.int p1), .val (.int p2), .val (.int p3), .val (.int p4), .val (.int p5), .val (.int (3 : Int32)), .val (.int md), .val (.int ca), .val (.int d0), .val (.int d1), .val (.int d2), .val (.int y2), .val (.ref b1), .val (.int qq), .val (.int p4)] []))
            refine OwnGo.fwd (fun tq' kq' => XS.iload X71.here hx rfl (hb hby at_251) rfl kq') ?_
            show OwnGo _ _ _ _ (T71.setTop (mkF m 253 #[.val (.int p0), .val (.int p1), .val (.int p2), .val (.int p3), .val (.int p4), .val (.int p5), .val (.int (3 : Int32)), .val (.int md), .val (.int ca), .val (.int d0), .val (.int d1), .val (.int d2), .val (.int y2), .val (.ref b1), .val (.int qq), .val (.int p4)] [(.int (3 : Int32))]))
            refine OwnGo.fwd (fun tq' kq' => XS.iconst X71.here hx rfl (hb hby at_253) kq') ?_
            show OwnGo _ _ _ _ (T71.setTop (mkF m 254 #[.val (.int p0), .val (.int p1), .val (.int p2), .val (.int p3), .val (.int p4), .val (.int p5), .val (.int (3 : Int32)), .val (.int md), .val (.int ca), .val (.int d0), .val (.int d1), .val (.int d2), .val (.int y2), .val (.ref b1), .val (.int qq), .val (.int p4)] [(.int (2 : Int32)), (.int (3 : Int32))]))
            have hc254_90 : (2 : Int) < (3 : Int) := by decide
            refine OwnGo.fwd (fun tq' kq' => XS.icmpNo X71.here hx rfl (hb hby at_254) rfl (own_blt (by decide) (by decide) hc254_90).2.2.2 kq') ?_
            show OwnGo _ _ _ _ (T71.setTop (mkF m 257 #[.val (.int p0), .val (.int p1), .val (.int p2), .val (.int p3), .val (.int p4), .val (.int p5), .val (.int (3 : Int32)), .val (.int md), .val (.int ca), .val (.int d0), .val (.int d1), .val (.int d2), .val (.int y2), .val (.ref b1), .val (.int qq), .val (.int p4)] []))
            refine OwnGo.fwd (fun tq' kq' => XS.iload X71.here hx rfl (hb hby at_257) rfl kq') ?_
            show OwnGo _ _ _ _ (T71.setTop (mkF m 259 #[.val (.int p0), .val (.int p1), .val (.int p2), .val (.int p3), .val (.int p4), .val (.int p5), .val (.int (3 : Int32)), .val (.int md), .val (.int ca), .val (.int d0), .val (.int d1), .val (.int d2), .val (.int y2), .val (.ref b1), .val (.int qq), .val (.int p4)] [(.int qq)]))
            refine OwnGo.fwd (fun tq' kq' => XS.iload X71.here hx rfl (hb hby at_259) rfl kq') ?_
            show OwnGo _ _ _ _ (T71.setTop (mkF m 261 #[.val (.int p0), .val (.int p1), .val (.int p2), .val (.int p3), .val (.int p4), .val (.int p5), .val (.int (3 : Int32)), .val (.int md), .val (.int ca), .val (.int d0), .val (.int d1), .val (.int d2), .val (.int y2), .val (.ref b1), .val (.int qq), .val (.int p4)] [(.int d2), (.int qq)]))
            by_cases hc261_91 : qq.toInt = d2.toInt
            · refine OwnGo.fwd (fun tq' kq' => XS.icmpNo X71.here hx rfl (hb hby at_261) rfl (own_beq rfl rfl hc261_91).2 kq') ?_
              show OwnGo _ _ _ _ (T71.setTop (mkF m 264 #[.val (.int p0), .val (.int p1), .val (.int p2), .val (.int p3), .val (.int p4), .val (.int p5), .val (.int (3 : Int32)), .val (.int md), .val (.int ca), .val (.int d0), .val (.int d1), .val (.int d2), .val (.int y2), .val (.ref b1), .val (.int qq), .val (.int p4)] []))
              refine OwnGo.fwd (fun tq' kq' => XS.iload X71.here hx rfl (hb hby at_264) rfl kq') ?_
              show OwnGo _ _ _ _ (T71.setTop (mkF m 266 #[.val (.int p0), .val (.int p1), .val (.int p2), .val (.int p3), .val (.int p4), .val (.int p5), .val (.int (3 : Int32)), .val (.int md), .val (.int ca), .val (.int d0), .val (.int d1), .val (.int d2), .val (.int y2), .val (.ref b1), .val (.int qq), .val (.int p4)] [(.int y2)]))
              refine OwnGo.fwd (fun tq' kq' => XS.istore X71.here hx rfl (hb hby at_266) rfl (l' := #[.val (.int p0), .val (.int p1), .val (.int p2), .val (.int p3), .val (.int p4), .val (.int p5), .val (.int (3 : Int32)), .val (.int md), .val (.int ca), .val (.int d0), .val (.int d1), .val (.int d2), .val (.int y2), .val (.ref b1), .val (.int qq), .val (.int y2)]) rfl kq') ?_
              show OwnGo _ _ _ _ (T71.setTop (mkF m 268 #[.val (.int p0), .val (.int p1), .val (.int p2), .val (.int p3), .val (.int p4), .val (.int p5), .val (.int (3 : Int32)), .val (.int md), .val (.int ca), .val (.int d0), .val (.int d1), .val (.int d2), .val (.int y2), .val (.ref b1), .val (.int qq), .val (.int y2)] []))
              refine OwnGo.fwd (fun tq' kq' => XS.aload X71.here hx rfl (hb hby at_268) rfl rfl kq') ?_
              show OwnGo _ _ _ _ (T71.setTop (mkF m 270 #[.val (.int p0), .val (.int p1), .val (.int p2), .val (.int p3), .val (.int p4), .val (.int p5), .val (.int (3 : Int32)), .val (.int md), .val (.int ca), .val (.int d0), .val (.int d1), .val (.int d2), .val (.int y2), .val (.ref b1), .val (.int qq), .val (.int y2)] [(.ref b1)]))
              refine OwnGo.fwd (fun tq' kq' => XS.iload X71.here hx rfl (hb hby at_270) rfl kq') ?_
              show OwnGo _ _ _ _ (T71.setTop (mkF m 272 #[.val (.int p0), .val (.int p1), .val (.int p2), .val (.int p3), .val (.int p4), .val (.int p5), .val (.int (3 : Int32)), .val (.int md), .val (.int ca), .val (.int d0), .val (.int d1), .val (.int d2), .val (.int y2), .val (.ref b1), .val (.int qq), .val (.int y2)] [(.int qq), (.ref b1)]))
              obtain ⟨cq92, kq92, q92a, q92b, q92c⟩ := isOf hZ eh71.symm E_b1
              obtain ⟨_, _, ⟨T92, L92, k92, n92⟩, -, X92, ⟨Lc92, hQ92, l92, y92, z92⟩, st92⟩ := X71.virtualBack hx (y := (⟨"com/example/inverse_frequency/inversefrequency/Postings", "frequencyIn", "(I)I"⟩ : MethodName)) (z := (⟨"com/example/inverse_frequency/inversefrequency/Postings", "frequencyIn", "(I)I"⟩ : MethodName)) hown (mvT hZ (hw _ (List.mem_of_getElem? (i := 19) rfl))) (mvT hZ (hw _ (List.mem_of_getElem? (i := 20) rfl))) (notFace_of_selects (args := #[]) (mvT hZ (hw _ (List.mem_of_getElem? (i := 22) rfl)))) (mvT hZ (hw _ (List.mem_of_getElem? (i := 22) rfl))) (mvT hZ (hw _ (List.mem_of_getElem? (i := 21) rfl))) (by decide) (backOf (W := 0) (rm4n3 l Z a0 hw [] b1 da3 fa3 ((((0 : Int64) + p3.toInt64) + p4.toInt64) + y2.toInt64) cp3 f3 g3 qq h71 n0 Zs ⟨E_b1, F_documents_b1, F_frequencies_b1, F_size_b1, F_totalFrequency_b1, V_da3, V_fa3, ne_b1_da3, ne_b1_fa3, ne_da3_fa3, g_b1, g_da3, g_fa3⟩ (by omega) (by rw [ef3_0, ef3_1]; exact h01) (by rw [ef3_1, ef3_2]; exact h12)) hZ (hw _ (List.mem_of_getElem? (i := 23) rfl)) (hw _ (List.mem_of_getElem? (i := 3) rfl)) (by decide) (by decide)) q92a q92c (g := (mkF m 272 #[.val (.int p0), .val (.int p1), .val (.int p2), .val (.int p3), .val (.int p4), .val (.int p5), .val (.int (3 : Int32)), .val (.int md), .val (.int ca), .val (.int d0), .val (.int d1), .val (.int d2), .val (.int y2), .val (.ref b1), .val (.int qq), .val (.int y2)] [(.int qq), (.ref b1)])) rfl (by rw [hml]; rfl) (Steps.refl _) (argsL := [(.int qq)]) (rest := []) (lenOf pd_3 rfl) rfl (by show 2 * 0 + _ ≤ _; exact Nat.le_of_eq rfl) (hb hby at_272) (fun _ _ => ⟨rfl, eh71.symm, (by decide : 9 + 0 ≤ _), (by decide : 38 + 0 ≤ _)⟩)
              dsimp only [Pt.U, Pt.locs, Pt.cells, Pt.slots] at X92 l92 y92 z92 st92 hQ92
              subst l92 y92 z92
              obtain ⟨N92q, e92, r92, rfl, hr92⟩ := hQ92
              have N := Fr.app N N92q
              refine OwnGo.thru st92 ?_
              show OwnGo _ _ _ _ (T92.setTop (mkF m 275 #[.val (.int p0), .val (.int p1), .val (.int p2), .val (.int p3), .val (.int p4), .val (.int p5), .val (.int (3 : Int32)), .val (.int md), .val (.int ca), .val (.int d0), .val (.int d1), .val (.int d2), .val (.int y2), .val (.ref b1), .val (.int qq), .val (.int y2)] [(.int r92)]))
              refine OwnGo.fwd (fun tq' kq' => XS.iload X92.here hx rfl (hb hby at_275) rfl kq') ?_
              show OwnGo _ _ _ _ (T92.setTop (mkF m 277 #[.val (.int p0), .val (.int p1), .val (.int p2), .val (.int p3), .val (.int p4), .val (.int p5), .val (.int (3 : Int32)), .val (.int md), .val (.int ca), .val (.int d0), .val (.int d1), .val (.int d2), .val (.int y2), .val (.ref b1), .val (.int qq), .val (.int y2)] [(.int y2), (.int r92)]))
              have hc277_93 : r92.toInt = y2.toInt := by
                  rcases hr92 with ⟨i, hi, e, hr⟩ | ⟨hall, hr⟩
                  · have : i = 0 ∨ i = 1 ∨ i = 2 := by omega
                    rcases this with rfl | rfl | rfl
                    · rw [ef3_0] at e; rw [hr, eg3_0] <;> first | rfl | omega
                    · rw [ef3_1] at e; rw [hr, eg3_1] <;> first | rfl | omega
                    · rw [ef3_2] at e; rw [hr, eg3_2] <;> first | rfl | omega
                  · have h0a := hall 0 (by decide); rw [ef3_0] at h0a; have h1a := hall 1 (by decide); rw [ef3_1] at h1a; have h2a := hall 2 (by decide); rw [ef3_2] at h2a; rw [hr] <;> first | rfl | omega
              refine OwnGo.fwd (fun tq' kq' => XS.icmpNo X92.here hx rfl (hb hby at_277) rfl (own_beq rfl rfl hc277_93).2 kq') ?_
              show OwnGo _ _ _ _ (T92.setTop (mkF m 280 #[.val (.int p0), .val (.int p1), .val (.int p2), .val (.int p3), .val (.int p4), .val (.int p5), .val (.int (3 : Int32)), .val (.int md), .val (.int ca), .val (.int d0), .val (.int d1), .val (.int d2), .val (.int y2), .val (.ref b1), .val (.int qq), .val (.int y2)] []))
              refine OwnGo.fwd (fun tq' kq' => XS.iconst X92.here hx rfl (hb hby at_280) kq') ?_
              show OwnGo _ _ _ _ (T92.setTop (mkF m 281 #[.val (.int p0), .val (.int p1), .val (.int p2), .val (.int p3), .val (.int p4), .val (.int p5), .val (.int (3 : Int32)), .val (.int md), .val (.int ca), .val (.int d0), .val (.int d1), .val (.int d2), .val (.int y2), .val (.ref b1), .val (.int qq), .val (.int y2)] [(.int (1 : Int32))]))
              refine OwnGo.fwd (fun tq' kq' => XS.goto X92.here hx rfl (pc0 := 281) (pc' := 285) rfl (hb hby at_281) (by decide) (by decide) kq') ?_
              show OwnGo _ _ _ _ (T92.setTop (mkF m 285 #[.val (.int p0), .val (.int p1), .val (.int p2), .val (.int p3), .val (.int p4), .val (.int p5), .val (.int (3 : Int32)), .val (.int md), .val (.int ca), .val (.int d0), .val (.int d1), .val (.int d2), .val (.int y2), .val (.ref b1), .val (.int qq), .val (.int y2)] [(.int (1 : Int32))]))
              exact own_retZ X92 hlk hx Bd.returns (hb hby at_285) (by decide) (by decide) e92 ⟨rfl, N⟩
            · refine OwnGo.fwd (fun tq' kq' => XS.icmpYes X71.here hx rfl (pc0 := 261) (pc' := 268) rfl (hb hby at_261) rfl (own_bneq rfl rfl hc261_91).2 (by decide) (by decide) kq') ?_
              show OwnGo _ _ _ _ (T71.setTop (mkF m 268 #[.val (.int p0), .val (.int p1), .val (.int p2), .val (.int p3), .val (.int p4), .val (.int p5), .val (.int (3 : Int32)), .val (.int md), .val (.int ca), .val (.int d0), .val (.int d1), .val (.int d2), .val (.int y2), .val (.ref b1), .val (.int qq), .val (.int p4)] []))
              refine OwnGo.fwd (fun tq' kq' => XS.aload X71.here hx rfl (hb hby at_268) rfl rfl kq') ?_
              show OwnGo _ _ _ _ (T71.setTop (mkF m 270 #[.val (.int p0), .val (.int p1), .val (.int p2), .val (.int p3), .val (.int p4), .val (.int p5), .val (.int (3 : Int32)), .val (.int md), .val (.int ca), .val (.int d0), .val (.int d1), .val (.int d2), .val (.int y2), .val (.ref b1), .val (.int qq), .val (.int p4)] [(.ref b1)]))
              refine OwnGo.fwd (fun tq' kq' => XS.iload X71.here hx rfl (hb hby at_270) rfl kq') ?_
              show OwnGo _ _ _ _ (T71.setTop (mkF m 272 #[.val (.int p0), .val (.int p1), .val (.int p2), .val (.int p3), .val (.int p4), .val (.int p5), .val (.int (3 : Int32)), .val (.int md), .val (.int ca), .val (.int d0), .val (.int d1), .val (.int d2), .val (.int y2), .val (.ref b1), .val (.int qq), .val (.int p4)] [(.int qq), (.ref b1)]))
              obtain ⟨cq94, kq94, q94a, q94b, q94c⟩ := isOf hZ eh71.symm E_b1
              obtain ⟨_, _, ⟨T94, L94, k94, n94⟩, -, X94, ⟨Lc94, hQ94, l94, y94, z94⟩, st94⟩ := X71.virtualBack hx (y := (⟨"com/example/inverse_frequency/inversefrequency/Postings", "frequencyIn", "(I)I"⟩ : MethodName)) (z := (⟨"com/example/inverse_frequency/inversefrequency/Postings", "frequencyIn", "(I)I"⟩ : MethodName)) hown (mvT hZ (hw _ (List.mem_of_getElem? (i := 19) rfl))) (mvT hZ (hw _ (List.mem_of_getElem? (i := 20) rfl))) (notFace_of_selects (args := #[]) (mvT hZ (hw _ (List.mem_of_getElem? (i := 22) rfl)))) (mvT hZ (hw _ (List.mem_of_getElem? (i := 22) rfl))) (mvT hZ (hw _ (List.mem_of_getElem? (i := 21) rfl))) (by decide) (backOf (W := 0) (rm4n3 l Z a0 hw [] b1 da3 fa3 ((((0 : Int64) + p3.toInt64) + p4.toInt64) + y2.toInt64) cp3 f3 g3 qq h71 n0 Zs ⟨E_b1, F_documents_b1, F_frequencies_b1, F_size_b1, F_totalFrequency_b1, V_da3, V_fa3, ne_b1_da3, ne_b1_fa3, ne_da3_fa3, g_b1, g_da3, g_fa3⟩ (by omega) (by rw [ef3_0, ef3_1]; exact h01) (by rw [ef3_1, ef3_2]; exact h12)) hZ (hw _ (List.mem_of_getElem? (i := 23) rfl)) (hw _ (List.mem_of_getElem? (i := 3) rfl)) (by decide) (by decide)) q94a q94c (g := (mkF m 272 #[.val (.int p0), .val (.int p1), .val (.int p2), .val (.int p3), .val (.int p4), .val (.int p5), .val (.int (3 : Int32)), .val (.int md), .val (.int ca), .val (.int d0), .val (.int d1), .val (.int d2), .val (.int y2), .val (.ref b1), .val (.int qq), .val (.int p4)] [(.int qq), (.ref b1)])) rfl (by rw [hml]; rfl) (Steps.refl _) (argsL := [(.int qq)]) (rest := []) (lenOf pd_3 rfl) rfl (by show 2 * 0 + _ ≤ _; exact Nat.le_of_eq rfl) (hb hby at_272) (fun _ _ => ⟨rfl, eh71.symm, (by decide : 9 + 0 ≤ _), (by decide : 38 + 0 ≤ _)⟩)
              dsimp only [Pt.U, Pt.locs, Pt.cells, Pt.slots] at X94 l94 y94 z94 st94 hQ94
              subst l94 y94 z94
              obtain ⟨N94q, e94, r94, rfl, hr94⟩ := hQ94
              have N := Fr.app N N94q
              refine OwnGo.thru st94 ?_
              show OwnGo _ _ _ _ (T94.setTop (mkF m 275 #[.val (.int p0), .val (.int p1), .val (.int p2), .val (.int p3), .val (.int p4), .val (.int p5), .val (.int (3 : Int32)), .val (.int md), .val (.int ca), .val (.int d0), .val (.int d1), .val (.int d2), .val (.int y2), .val (.ref b1), .val (.int qq), .val (.int p4)] [(.int r94)]))
              refine OwnGo.fwd (fun tq' kq' => XS.iload X94.here hx rfl (hb hby at_275) rfl kq') ?_
              show OwnGo _ _ _ _ (T94.setTop (mkF m 277 #[.val (.int p0), .val (.int p1), .val (.int p2), .val (.int p3), .val (.int p4), .val (.int p5), .val (.int (3 : Int32)), .val (.int md), .val (.int ca), .val (.int d0), .val (.int d1), .val (.int d2), .val (.int y2), .val (.ref b1), .val (.int qq), .val (.int p4)] [(.int p4), (.int r94)]))
              have hc277_95 : r94.toInt = p4.toInt := by
                  rcases hr94 with ⟨i, hi, e, hr⟩ | ⟨hall, hr⟩
                  · have : i = 0 ∨ i = 1 ∨ i = 2 := by omega
                    rcases this with rfl | rfl | rfl
                    · rw [ef3_0] at e; rw [hr, eg3_0] <;> first | rfl | omega
                    · rw [ef3_1] at e; rw [hr, eg3_1] <;> first | rfl | omega
                    · rw [ef3_2] at e; rw [hr, eg3_2] <;> first | rfl | omega
                  · have h0a := hall 0 (by decide); rw [ef3_0] at h0a; have h1a := hall 1 (by decide); rw [ef3_1] at h1a; have h2a := hall 2 (by decide); rw [ef3_2] at h2a; rw [hr] <;> first | rfl | omega
              refine OwnGo.fwd (fun tq' kq' => XS.icmpNo X94.here hx rfl (hb hby at_277) rfl (own_beq rfl rfl hc277_95).2 kq') ?_
              show OwnGo _ _ _ _ (T94.setTop (mkF m 280 #[.val (.int p0), .val (.int p1), .val (.int p2), .val (.int p3), .val (.int p4), .val (.int p5), .val (.int (3 : Int32)), .val (.int md), .val (.int ca), .val (.int d0), .val (.int d1), .val (.int d2), .val (.int y2), .val (.ref b1), .val (.int qq), .val (.int p4)] []))
              refine OwnGo.fwd (fun tq' kq' => XS.iconst X94.here hx rfl (hb hby at_280) kq') ?_
              show OwnGo _ _ _ _ (T94.setTop (mkF m 281 #[.val (.int p0), .val (.int p1), .val (.int p2), .val (.int p3), .val (.int p4), .val (.int p5), .val (.int (3 : Int32)), .val (.int md), .val (.int ca), .val (.int d0), .val (.int d1), .val (.int d2), .val (.int y2), .val (.ref b1), .val (.int qq), .val (.int p4)] [(.int (1 : Int32))]))
              refine OwnGo.fwd (fun tq' kq' => XS.goto X94.here hx rfl (pc0 := 281) (pc' := 285) rfl (hb hby at_281) (by decide) (by decide) kq') ?_
              show OwnGo _ _ _ _ (T94.setTop (mkF m 285 #[.val (.int p0), .val (.int p1), .val (.int p2), .val (.int p3), .val (.int p4), .val (.int p5), .val (.int (3 : Int32)), .val (.int md), .val (.int ca), .val (.int d0), .val (.int d1), .val (.int d2), .val (.int y2), .val (.ref b1), .val (.int qq), .val (.int p4)] [(.int (1 : Int32))]))
              exact own_retZ X94 hlk hx Bd.returns (hb hby at_285) (by decide) (by decide) e94 ⟨rfl, N⟩
          · refine OwnGo.fwd (fun tq' kq' => XS.icmpYes X71.here hx rfl (pc0 := 244) (pc' := 251) rfl (hb hby at_244) rfl (own_bneq rfl rfl hc244_89).2 (by decide) (by decide) kq') ?_
            show OwnGo _ _ _ _ (T71.setTop (mkF m 251 #[.val (.int p0), .val (.int p1), .val (.int p2), .val (.int p3), .val (.int p4), .val (.int p5), .val (.int (3 : Int32)), .val (.int md), .val (.int ca), .val (.int d0), .val (.int d1), .val (.int d2), .val (.int y2), .val (.ref b1), .val (.int qq), .val (.int (0 : Int32))] []))
            refine OwnGo.fwd (fun tq' kq' => XS.iload X71.here hx rfl (hb hby at_251) rfl kq') ?_
            show OwnGo _ _ _ _ (T71.setTop (mkF m 253 #[.val (.int p0), .val (.int p1), .val (.int p2), .val (.int p3), .val (.int p4), .val (.int p5), .val (.int (3 : Int32)), .val (.int md), .val (.int ca), .val (.int d0), .val (.int d1), .val (.int d2), .val (.int y2), .val (.ref b1), .val (.int qq), .val (.int (0 : Int32))] [(.int (3 : Int32))]))
            refine OwnGo.fwd (fun tq' kq' => XS.iconst X71.here hx rfl (hb hby at_253) kq') ?_
            show OwnGo _ _ _ _ (T71.setTop (mkF m 254 #[.val (.int p0), .val (.int p1), .val (.int p2), .val (.int p3), .val (.int p4), .val (.int p5), .val (.int (3 : Int32)), .val (.int md), .val (.int ca), .val (.int d0), .val (.int d1), .val (.int d2), .val (.int y2), .val (.ref b1), .val (.int qq), .val (.int (0 : Int32))] [(.int (2 : Int32)), (.int (3 : Int32))]))
            have hc254_96 : (2 : Int) < (3 : Int) := by decide
            refine OwnGo.fwd (fun tq' kq' => XS.icmpNo X71.here hx rfl (hb hby at_254) rfl (own_blt (by decide) (by decide) hc254_96).2.2.2 kq') ?_
            show OwnGo _ _ _ _ (T71.setTop (mkF m 257 #[.val (.int p0), .val (.int p1), .val (.int p2), .val (.int p3), .val (.int p4), .val (.int p5), .val (.int (3 : Int32)), .val (.int md), .val (.int ca), .val (.int d0), .val (.int d1), .val (.int d2), .val (.int y2), .val (.ref b1), .val (.int qq), .val (.int (0 : Int32))] []))
            refine OwnGo.fwd (fun tq' kq' => XS.iload X71.here hx rfl (hb hby at_257) rfl kq') ?_
            show OwnGo _ _ _ _ (T71.setTop (mkF m 259 #[.val (.int p0), .val (.int p1), .val (.int p2), .val (.int p3), .val (.int p4), .val (.int p5), .val (.int (3 : Int32)), .val (.int md), .val (.int ca), .val (.int d0), .val (.int d1), .val (.int d2), .val (.int y2), .val (.ref b1), .val (.int qq), .val (.int (0 : Int32))] [(.int qq)]))
            refine OwnGo.fwd (fun tq' kq' => XS.iload X71.here hx rfl (hb hby at_259) rfl kq') ?_
            show OwnGo _ _ _ _ (T71.setTop (mkF m 261 #[.val (.int p0), .val (.int p1), .val (.int p2), .val (.int p3), .val (.int p4), .val (.int p5), .val (.int (3 : Int32)), .val (.int md), .val (.int ca), .val (.int d0), .val (.int d1), .val (.int d2), .val (.int y2), .val (.ref b1), .val (.int qq), .val (.int (0 : Int32))] [(.int d2), (.int qq)]))
            by_cases hc261_97 : qq.toInt = d2.toInt
            · refine OwnGo.fwd (fun tq' kq' => XS.icmpNo X71.here hx rfl (hb hby at_261) rfl (own_beq rfl rfl hc261_97).2 kq') ?_
              show OwnGo _ _ _ _ (T71.setTop (mkF m 264 #[.val (.int p0), .val (.int p1), .val (.int p2), .val (.int p3), .val (.int p4), .val (.int p5), .val (.int (3 : Int32)), .val (.int md), .val (.int ca), .val (.int d0), .val (.int d1), .val (.int d2), .val (.int y2), .val (.ref b1), .val (.int qq), .val (.int (0 : Int32))] []))
              refine OwnGo.fwd (fun tq' kq' => XS.iload X71.here hx rfl (hb hby at_264) rfl kq') ?_
              show OwnGo _ _ _ _ (T71.setTop (mkF m 266 #[.val (.int p0), .val (.int p1), .val (.int p2), .val (.int p3), .val (.int p4), .val (.int p5), .val (.int (3 : Int32)), .val (.int md), .val (.int ca), .val (.int d0), .val (.int d1), .val (.int d2), .val (.int y2), .val (.ref b1), .val (.int qq), .val (.int (0 : Int32))] [(.int y2)]))
              refine OwnGo.fwd (fun tq' kq' => XS.istore X71.here hx rfl (hb hby at_266) rfl (l' := #[.val (.int p0), .val (.int p1), .val (.int p2), .val (.int p3), .val (.int p4), .val (.int p5), .val (.int (3 : Int32)), .val (.int md), .val (.int ca), .val (.int d0), .val (.int d1), .val (.int d2), .val (.int y2), .val (.ref b1), .val (.int qq), .val (.int y2)]) rfl kq') ?_
              show OwnGo _ _ _ _ (T71.setTop (mkF m 268 #[.val (.int p0), .val (.int p1), .val (.int p2), .val (.int p3), .val (.int p4), .val (.int p5), .val (.int (3 : Int32)), .val (.int md), .val (.int ca), .val (.int d0), .val (.int d1), .val (.int d2), .val (.int y2), .val (.ref b1), .val (.int qq), .val (.int y2)] []))
              refine OwnGo.fwd (fun tq' kq' => XS.aload X71.here hx rfl (hb hby at_268) rfl rfl kq') ?_
              show OwnGo _ _ _ _ (T71.setTop (mkF m 270 #[.val (.int p0), .val (.int p1), .val (.int p2), .val (.int p3), .val (.int p4), .val (.int p5), .val (.int (3 : Int32)), .val (.int md), .val (.int ca), .val (.int d0), .val (.int d1), .val (.int d2), .val (.int y2), .val (.ref b1), .val (.int qq), .val (.int y2)] [(.ref b1)]))
              refine OwnGo.fwd (fun tq' kq' => XS.iload X71.here hx rfl (hb hby at_270) rfl kq') ?_
              show OwnGo _ _ _ _ (T71.setTop (mkF m 272 #[.val (.int p0), .val (.int p1), .val (.int p2), .val (.int p3), .val (.int p4), .val (.int p5), .val (.int (3 : Int32)), .val (.int md), .val (.int ca), .val (.int d0), .val (.int d1), .val (.int d2), .val (.int y2), .val (.ref b1), .val (.int qq), .val (.int y2)] [(.int qq), (.ref b1)]))
              obtain ⟨cq98, kq98, q98a, q98b, q98c⟩ := isOf hZ eh71.symm E_b1
              obtain ⟨_, _, ⟨T98, L98, k98, n98⟩, -, X98, ⟨Lc98, hQ98, l98, y98, z98⟩, st98⟩ := X71.virtualBack hx (y := (⟨"com/example/inverse_frequency/inversefrequency/Postings", "frequencyIn", "(I)I"⟩ : MethodName)) (z := (⟨"com/example/inverse_frequency/inversefrequency/Postings", "frequencyIn", "(I)I"⟩ : MethodName)) hown (mvT hZ (hw _ (List.mem_of_getElem? (i := 19) rfl))) (mvT hZ (hw _ (List.mem_of_getElem? (i := 20) rfl))) (notFace_of_selects (args := #[]) (mvT hZ (hw _ (List.mem_of_getElem? (i := 22) rfl)))) (mvT hZ (hw _ (List.mem_of_getElem? (i := 22) rfl))) (mvT hZ (hw _ (List.mem_of_getElem? (i := 21) rfl))) (by decide) (backOf (W := 0) (rm4n3 l Z a0 hw [] b1 da3 fa3 ((((0 : Int64) + p3.toInt64) + p4.toInt64) + y2.toInt64) cp3 f3 g3 qq h71 n0 Zs ⟨E_b1, F_documents_b1, F_frequencies_b1, F_size_b1, F_totalFrequency_b1, V_da3, V_fa3, ne_b1_da3, ne_b1_fa3, ne_da3_fa3, g_b1, g_da3, g_fa3⟩ (by omega) (by rw [ef3_0, ef3_1]; exact h01) (by rw [ef3_1, ef3_2]; exact h12)) hZ (hw _ (List.mem_of_getElem? (i := 23) rfl)) (hw _ (List.mem_of_getElem? (i := 3) rfl)) (by decide) (by decide)) q98a q98c (g := (mkF m 272 #[.val (.int p0), .val (.int p1), .val (.int p2), .val (.int p3), .val (.int p4), .val (.int p5), .val (.int (3 : Int32)), .val (.int md), .val (.int ca), .val (.int d0), .val (.int d1), .val (.int d2), .val (.int y2), .val (.ref b1), .val (.int qq), .val (.int y2)] [(.int qq), (.ref b1)])) rfl (by rw [hml]; rfl) (Steps.refl _) (argsL := [(.int qq)]) (rest := []) (lenOf pd_3 rfl) rfl (by show 2 * 0 + _ ≤ _; exact Nat.le_of_eq rfl) (hb hby at_272) (fun _ _ => ⟨rfl, eh71.symm, (by decide : 9 + 0 ≤ _), (by decide : 38 + 0 ≤ _)⟩)
              dsimp only [Pt.U, Pt.locs, Pt.cells, Pt.slots] at X98 l98 y98 z98 st98 hQ98
              subst l98 y98 z98
              obtain ⟨N98q, e98, r98, rfl, hr98⟩ := hQ98
              have N := Fr.app N N98q
              refine OwnGo.thru st98 ?_
              show OwnGo _ _ _ _ (T98.setTop (mkF m 275 #[.val (.int p0), .val (.int p1), .val (.int p2), .val (.int p3), .val (.int p4), .val (.int p5), .val (.int (3 : Int32)), .val (.int md), .val (.int ca), .val (.int d0), .val (.int d1), .val (.int d2), .val (.int y2), .val (.ref b1), .val (.int qq), .val (.int y2)] [(.int r98)]))
              refine OwnGo.fwd (fun tq' kq' => XS.iload X98.here hx rfl (hb hby at_275) rfl kq') ?_
              show OwnGo _ _ _ _ (T98.setTop (mkF m 277 #[.val (.int p0), .val (.int p1), .val (.int p2), .val (.int p3), .val (.int p4), .val (.int p5), .val (.int (3 : Int32)), .val (.int md), .val (.int ca), .val (.int d0), .val (.int d1), .val (.int d2), .val (.int y2), .val (.ref b1), .val (.int qq), .val (.int y2)] [(.int y2), (.int r98)]))
              have hc277_99 : r98.toInt = y2.toInt := by
                  rcases hr98 with ⟨i, hi, e, hr⟩ | ⟨hall, hr⟩
                  · have : i = 0 ∨ i = 1 ∨ i = 2 := by omega
                    rcases this with rfl | rfl | rfl
                    · rw [ef3_0] at e; rw [hr, eg3_0] <;> first | rfl | omega
                    · rw [ef3_1] at e; rw [hr, eg3_1] <;> first | rfl | omega
                    · rw [ef3_2] at e; rw [hr, eg3_2] <;> first | rfl | omega
                  · have h0a := hall 0 (by decide); rw [ef3_0] at h0a; have h1a := hall 1 (by decide); rw [ef3_1] at h1a; have h2a := hall 2 (by decide); rw [ef3_2] at h2a; rw [hr] <;> first | rfl | omega
              refine OwnGo.fwd (fun tq' kq' => XS.icmpNo X98.here hx rfl (hb hby at_277) rfl (own_beq rfl rfl hc277_99).2 kq') ?_
              show OwnGo _ _ _ _ (T98.setTop (mkF m 280 #[.val (.int p0), .val (.int p1), .val (.int p2), .val (.int p3), .val (.int p4), .val (.int p5), .val (.int (3 : Int32)), .val (.int md), .val (.int ca), .val (.int d0), .val (.int d1), .val (.int d2), .val (.int y2), .val (.ref b1), .val (.int qq), .val (.int y2)] []))
              refine OwnGo.fwd (fun tq' kq' => XS.iconst X98.here hx rfl (hb hby at_280) kq') ?_
              show OwnGo _ _ _ _ (T98.setTop (mkF m 281 #[.val (.int p0), .val (.int p1), .val (.int p2), .val (.int p3), .val (.int p4), .val (.int p5), .val (.int (3 : Int32)), .val (.int md), .val (.int ca), .val (.int d0), .val (.int d1), .val (.int d2), .val (.int y2), .val (.ref b1), .val (.int qq), .val (.int y2)] [(.int (1 : Int32))]))
              refine OwnGo.fwd (fun tq' kq' => XS.goto X98.here hx rfl (pc0 := 281) (pc' := 285) rfl (hb hby at_281) (by decide) (by decide) kq') ?_
              show OwnGo _ _ _ _ (T98.setTop (mkF m 285 #[.val (.int p0), .val (.int p1), .val (.int p2), .val (.int p3), .val (.int p4), .val (.int p5), .val (.int (3 : Int32)), .val (.int md), .val (.int ca), .val (.int d0), .val (.int d1), .val (.int d2), .val (.int y2), .val (.ref b1), .val (.int qq), .val (.int y2)] [(.int (1 : Int32))]))
              exact own_retZ X98 hlk hx Bd.returns (hb hby at_285) (by decide) (by decide) e98 ⟨rfl, N⟩
            · refine OwnGo.fwd (fun tq' kq' => XS.icmpYes X71.here hx rfl (pc0 := 261) (pc' := 268) rfl (hb hby at_261) rfl (own_bneq rfl rfl hc261_97).2 (by decide) (by decide) kq') ?_
              show OwnGo _ _ _ _ (T71.setTop (mkF m 268 #[.val (.int p0), .val (.int p1), .val (.int p2), .val (.int p3), .val (.int p4), .val (.int p5), .val (.int (3 : Int32)), .val (.int md), .val (.int ca), .val (.int d0), .val (.int d1), .val (.int d2), .val (.int y2), .val (.ref b1), .val (.int qq), .val (.int (0 : Int32))] []))
              refine OwnGo.fwd (fun tq' kq' => XS.aload X71.here hx rfl (hb hby at_268) rfl rfl kq') ?_
              show OwnGo _ _ _ _ (T71.setTop (mkF m 270 #[.val (.int p0), .val (.int p1), .val (.int p2), .val (.int p3), .val (.int p4), .val (.int p5), .val (.int (3 : Int32)), .val (.int md), .val (.int ca), .val (.int d0), .val (.int d1), .val (.int d2), .val (.int y2), .val (.ref b1), .val (.int qq), .val (.int (0 : Int32))] [(.ref b1)]))
              refine OwnGo.fwd (fun tq' kq' => XS.iload X71.here hx rfl (hb hby at_270) rfl kq') ?_
              show OwnGo _ _ _ _ (T71.setTop (mkF m 272 #[.val (.int p0), .val (.int p1), .val (.int p2), .val (.int p3), .val (.int p4), .val (.int p5), .val (.int (3 : Int32)), .val (.int md), .val (.int ca), .val (.int d0), .val (.int d1), .val (.int d2), .val (.int y2), .val (.ref b1), .val (.int qq), .val (.int (0 : Int32))] [(.int qq), (.ref b1)]))
              obtain ⟨cq100, kq100, q100a, q100b, q100c⟩ := isOf hZ eh71.symm E_b1
              obtain ⟨_, _, ⟨T100, L100, k100, n100⟩, -, X100, ⟨Lc100, hQ100, l100, y100, z100⟩, st100⟩ := X71.virtualBack hx (y := (⟨"com/example/inverse_frequency/inversefrequency/Postings", "frequencyIn", "(I)I"⟩ : MethodName)) (z := (⟨"com/example/inverse_frequency/inversefrequency/Postings", "frequencyIn", "(I)I"⟩ : MethodName)) hown (mvT hZ (hw _ (List.mem_of_getElem? (i := 19) rfl))) (mvT hZ (hw _ (List.mem_of_getElem? (i := 20) rfl))) (notFace_of_selects (args := #[]) (mvT hZ (hw _ (List.mem_of_getElem? (i := 22) rfl)))) (mvT hZ (hw _ (List.mem_of_getElem? (i := 22) rfl))) (mvT hZ (hw _ (List.mem_of_getElem? (i := 21) rfl))) (by decide) (backOf (W := 0) (rm4n3 l Z a0 hw [] b1 da3 fa3 ((((0 : Int64) + p3.toInt64) + p4.toInt64) + y2.toInt64) cp3 f3 g3 qq h71 n0 Zs ⟨E_b1, F_documents_b1, F_frequencies_b1, F_size_b1, F_totalFrequency_b1, V_da3, V_fa3, ne_b1_da3, ne_b1_fa3, ne_da3_fa3, g_b1, g_da3, g_fa3⟩ (by omega) (by rw [ef3_0, ef3_1]; exact h01) (by rw [ef3_1, ef3_2]; exact h12)) hZ (hw _ (List.mem_of_getElem? (i := 23) rfl)) (hw _ (List.mem_of_getElem? (i := 3) rfl)) (by decide) (by decide)) q100a q100c (g := (mkF m 272 #[.val (.int p0), .val (.int p1), .val (.int p2), .val (.int p3), .val (.int p4), .val (.int p5), .val (.int (3 : Int32)), .val (.int md), .val (.int ca), .val (.int d0), .val (.int d1), .val (.int d2), .val (.int y2), .val (.ref b1), .val (.int qq), .val (.int (0 : Int32))] [(.int qq), (.ref b1)])) rfl (by rw [hml]; rfl) (Steps.refl _) (argsL := [(.int qq)]) (rest := []) (lenOf pd_3 rfl) rfl (by show 2 * 0 + _ ≤ _; exact Nat.le_of_eq rfl) (hb hby at_272) (fun _ _ => ⟨rfl, eh71.symm, (by decide : 9 + 0 ≤ _), (by decide : 38 + 0 ≤ _)⟩)
              dsimp only [Pt.U, Pt.locs, Pt.cells, Pt.slots] at X100 l100 y100 z100 st100 hQ100
              subst l100 y100 z100
              obtain ⟨N100q, e100, r100, rfl, hr100⟩ := hQ100
              have N := Fr.app N N100q
              refine OwnGo.thru st100 ?_
              show OwnGo _ _ _ _ (T100.setTop (mkF m 275 #[.val (.int p0), .val (.int p1), .val (.int p2), .val (.int p3), .val (.int p4), .val (.int p5), .val (.int (3 : Int32)), .val (.int md), .val (.int ca), .val (.int d0), .val (.int d1), .val (.int d2), .val (.int y2), .val (.ref b1), .val (.int qq), .val (.int (0 : Int32))] [(.int r100)]))
              refine OwnGo.fwd (fun tq' kq' => XS.iload X100.here hx rfl (hb hby at_275) rfl kq') ?_
              show OwnGo _ _ _ _ (T100.setTop (mkF m 277 #[.val (.int p0), .val (.int p1), .val (.int p2), .val (.int p3), .val (.int p4), .val (.int p5), .val (.int (3 : Int32)), .val (.int md), .val (.int ca), .val (.int d0), .val (.int d1), .val (.int d2), .val (.int y2), .val (.ref b1), .val (.int qq), .val (.int (0 : Int32))] [(.int (0 : Int32)), (.int r100)]))
              have hc277_101 : r100.toInt = 0 := by
                  rcases hr100 with ⟨i, hi, e, hr⟩ | ⟨hall, hr⟩
                  · have : i = 0 ∨ i = 1 ∨ i = 2 := by omega
                    rcases this with rfl | rfl | rfl
                    · rw [ef3_0] at e; rw [hr, eg3_0] <;> first | rfl | omega
                    · rw [ef3_1] at e; rw [hr, eg3_1] <;> first | rfl | omega
                    · rw [ef3_2] at e; rw [hr, eg3_2] <;> first | rfl | omega
                  · have h0a := hall 0 (by decide); rw [ef3_0] at h0a; have h1a := hall 1 (by decide); rw [ef3_1] at h1a; have h2a := hall 2 (by decide); rw [ef3_2] at h2a; rw [hr] <;> first | rfl | omega
              refine OwnGo.fwd (fun tq' kq' => XS.icmpNo X100.here hx rfl (hb hby at_277) rfl (own_beq rfl (by decide) hc277_101).2 kq') ?_
              show OwnGo _ _ _ _ (T100.setTop (mkF m 280 #[.val (.int p0), .val (.int p1), .val (.int p2), .val (.int p3), .val (.int p4), .val (.int p5), .val (.int (3 : Int32)), .val (.int md), .val (.int ca), .val (.int d0), .val (.int d1), .val (.int d2), .val (.int y2), .val (.ref b1), .val (.int qq), .val (.int (0 : Int32))] []))
              refine OwnGo.fwd (fun tq' kq' => XS.iconst X100.here hx rfl (hb hby at_280) kq') ?_
              show OwnGo _ _ _ _ (T100.setTop (mkF m 281 #[.val (.int p0), .val (.int p1), .val (.int p2), .val (.int p3), .val (.int p4), .val (.int p5), .val (.int (3 : Int32)), .val (.int md), .val (.int ca), .val (.int d0), .val (.int d1), .val (.int d2), .val (.int y2), .val (.ref b1), .val (.int qq), .val (.int (0 : Int32))] [(.int (1 : Int32))]))
              refine OwnGo.fwd (fun tq' kq' => XS.goto X100.here hx rfl (pc0 := 281) (pc' := 285) rfl (hb hby at_281) (by decide) (by decide) kq') ?_
              show OwnGo _ _ _ _ (T100.setTop (mkF m 285 #[.val (.int p0), .val (.int p1), .val (.int p2), .val (.int p3), .val (.int p4), .val (.int p5), .val (.int (3 : Int32)), .val (.int md), .val (.int ca), .val (.int d0), .val (.int d1), .val (.int d2), .val (.int y2), .val (.ref b1), .val (.int qq), .val (.int (0 : Int32))] [(.int (1 : Int32))]))
              exact own_retZ X100 hlk hx Bd.returns (hb hby at_285) (by decide) (by decide) e100 ⟨rfl, N⟩
      refine OwnGo.fwd (fun tq' kq' => XS.iload X71.here hx rfl (hb hby at_129) rfl kq') ?_
      show OwnGo _ _ _ _ (T71.setTop (mkF m 131 #[.val (.int p0), .val (.int p1), .val (.int p2), .val (.int p3), .val (.int p4), .val (.int p5), .val (.int (3 : Int32)), .val (.int md), .val (.int ca), .val (.int d0), .val (.int d1), .val (.int d2), .val (.int y2), .val (.ref b1), .unset, .unset] [(.int md)]))
      by_cases hc131_102 : md.toInt = 0
      · refine OwnGo.fwd (fun tq' kq' => XS.ifNo X71.here hx rfl (hb hby at_131) rfl ((if0 _ _).trans (own_beq rfl (by decide) hc131_102).2) kq') ?_
        show OwnGo _ _ _ _ (T71.setTop (mkF m 134 #[.val (.int p0), .val (.int p1), .val (.int p2), .val (.int p3), .val (.int p4), .val (.int p5), .val (.int (3 : Int32)), .val (.int md), .val (.int ca), .val (.int d0), .val (.int d1), .val (.int d2), .val (.int y2), .val (.ref b1), .unset, .unset] []))
        refine OwnGo.fwd (fun tq' kq' => XS.iload X71.here hx rfl (hb hby at_134) rfl kq') ?_
        show OwnGo _ _ _ _ (T71.setTop (mkF m 136 #[.val (.int p0), .val (.int p1), .val (.int p2), .val (.int p3), .val (.int p4), .val (.int p5), .val (.int (3 : Int32)), .val (.int md), .val (.int ca), .val (.int d0), .val (.int d1), .val (.int d2), .val (.int y2), .val (.ref b1), .unset, .unset] [(.int d0)]))
        refine OwnGo.fwd (fun tq' kq' => XS.istore X71.here hx rfl (hb hby at_136) rfl (l' := #[.val (.int p0), .val (.int p1), .val (.int p2), .val (.int p3), .val (.int p4), .val (.int p5), .val (.int (3 : Int32)), .val (.int md), .val (.int ca), .val (.int d0), .val (.int d1), .val (.int d2), .val (.int y2), .val (.ref b1), .val (.int d0), .unset]) rfl kq') ?_
        show OwnGo _ _ _ _ (T71.setTop (mkF m 138 #[.val (.int p0), .val (.int p1), .val (.int p2), .val (.int p3), .val (.int p4), .val (.int p5), .val (.int (3 : Int32)), .val (.int md), .val (.int ca), .val (.int d0), .val (.int d1), .val (.int d2), .val (.int y2), .val (.ref b1), .val (.int d0), .unset] []))
        refine OwnGo.fwd (fun tq' kq' => XS.goto X71.here hx rfl (pc0 := 138) (pc' := 216) rfl (hb hby at_138) (by decide) (by decide) kq') ?_
        show OwnGo _ _ _ _ (T71.setTop (mkF m 216 #[.val (.int p0), .val (.int p1), .val (.int p2), .val (.int p3), .val (.int p4), .val (.int p5), .val (.int (3 : Int32)), .val (.int md), .val (.int ca), .val (.int d0), .val (.int d1), .val (.int d2), .val (.int y2), .val (.ref b1), .val (.int d0), .unset] []))
        exact J216 _
      · refine OwnGo.fwd (fun tq' kq' => XS.ifYes X71.here hx rfl (pc0 := 131) (pc' := 141) rfl (hb hby at_131) rfl ((if0 _ _).trans (own_bneq rfl (by decide) hc131_102).2) (by decide) (by decide) kq') ?_
        show OwnGo _ _ _ _ (T71.setTop (mkF m 141 #[.val (.int p0), .val (.int p1), .val (.int p2), .val (.int p3), .val (.int p4), .val (.int p5), .val (.int (3 : Int32)), .val (.int md), .val (.int ca), .val (.int d0), .val (.int d1), .val (.int d2), .val (.int y2), .val (.ref b1), .unset, .unset] []))
        refine OwnGo.fwd (fun tq' kq' => XS.iload X71.here hx rfl (hb hby at_141) rfl kq') ?_
        show OwnGo _ _ _ _ (T71.setTop (mkF m 143 #[.val (.int p0), .val (.int p1), .val (.int p2), .val (.int p3), .val (.int p4), .val (.int p5), .val (.int (3 : Int32)), .val (.int md), .val (.int ca), .val (.int d0), .val (.int d1), .val (.int d2), .val (.int y2), .val (.ref b1), .unset, .unset] [(.int md)]))
        refine OwnGo.fwd (fun tq' kq' => XS.iconst X71.here hx rfl (hb hby at_143) kq') ?_
        show OwnGo _ _ _ _ (T71.setTop (mkF m 144 #[.val (.int p0), .val (.int p1), .val (.int p2), .val (.int p3), .val (.int p4), .val (.int p5), .val (.int (3 : Int32)), .val (.int md), .val (.int ca), .val (.int d0), .val (.int d1), .val (.int d2), .val (.int y2), .val (.ref b1), .unset, .unset] [(.int (1 : Int32)), (.int md)]))
        by_cases hc144_103 : md.toInt = 1
        · refine OwnGo.fwd (fun tq' kq' => XS.icmpNo X71.here hx rfl (hb hby at_144) rfl (own_beq rfl (by decide) hc144_103).2 kq') ?_
          show OwnGo _ _ _ _ (T71.setTop (mkF m 147 #[.val (.int p0), .val (.int p1), .val (.int p2), .val (.int p3), .val (.int p4), .val (.int p5), .val (.int (3 : Int32)), .val (.int md), .val (.int ca), .val (.int d0), .val (.int d1), .val (.int d2), .val (.int y2), .val (.ref b1), .unset, .unset] []))
          refine OwnGo.fwd (fun tq' kq' => XS.iload X71.here hx rfl (hb hby at_147) rfl kq') ?_
          show OwnGo _ _ _ _ (T71.setTop (mkF m 149 #[.val (.int p0), .val (.int p1), .val (.int p2), .val (.int p3), .val (.int p4), .val (.int p5), .val (.int (3 : Int32)), .val (.int md), .val (.int ca), .val (.int d0), .val (.int d1), .val (.int d2), .val (.int y2), .val (.ref b1), .unset, .unset] [(.int d1)]))
          refine OwnGo.fwd (fun tq' kq' => XS.istore X71.here hx rfl (hb hby at_149) rfl (l' := #[.val (.int p0), .val (.int p1), .val (.int p2), .val (.int p3), .val (.int p4), .val (.int p5), .val (.int (3 : Int32)), .val (.int md), .val (.int ca), .val (.int d0), .val (.int d1), .val (.int d2), .val (.int y2), .val (.ref b1), .val (.int d1), .unset]) rfl kq') ?_
          show OwnGo _ _ _ _ (T71.setTop (mkF m 151 #[.val (.int p0), .val (.int p1), .val (.int p2), .val (.int p3), .val (.int p4), .val (.int p5), .val (.int (3 : Int32)), .val (.int md), .val (.int ca), .val (.int d0), .val (.int d1), .val (.int d2), .val (.int y2), .val (.ref b1), .val (.int d1), .unset] []))
          refine OwnGo.fwd (fun tq' kq' => XS.goto X71.here hx rfl (pc0 := 151) (pc' := 216) rfl (hb hby at_151) (by decide) (by decide) kq') ?_
          show OwnGo _ _ _ _ (T71.setTop (mkF m 216 #[.val (.int p0), .val (.int p1), .val (.int p2), .val (.int p3), .val (.int p4), .val (.int p5), .val (.int (3 : Int32)), .val (.int md), .val (.int ca), .val (.int d0), .val (.int d1), .val (.int d2), .val (.int y2), .val (.ref b1), .val (.int d1), .unset] []))
          exact J216 _
        · refine OwnGo.fwd (fun tq' kq' => XS.icmpYes X71.here hx rfl (pc0 := 144) (pc' := 154) rfl (hb hby at_144) rfl (own_bneq rfl (by decide) hc144_103).2 (by decide) (by decide) kq') ?_
          show OwnGo _ _ _ _ (T71.setTop (mkF m 154 #[.val (.int p0), .val (.int p1), .val (.int p2), .val (.int p3), .val (.int p4), .val (.int p5), .val (.int (3 : Int32)), .val (.int md), .val (.int ca), .val (.int d0), .val (.int d1), .val (.int d2), .val (.int y2), .val (.ref b1), .unset, .unset] []))
          refine OwnGo.fwd (fun tq' kq' => XS.iload X71.here hx rfl (hb hby at_154) rfl kq') ?_
          show OwnGo _ _ _ _ (T71.setTop (mkF m 156 #[.val (.int p0), .val (.int p1), .val (.int p2), .val (.int p3), .val (.int p4), .val (.int p5), .val (.int (3 : Int32)), .val (.int md), .val (.int ca), .val (.int d0), .val (.int d1), .val (.int d2), .val (.int y2), .val (.ref b1), .unset, .unset] [(.int md)]))
          refine OwnGo.fwd (fun tq' kq' => XS.iconst X71.here hx rfl (hb hby at_156) kq') ?_
          show OwnGo _ _ _ _ (T71.setTop (mkF m 157 #[.val (.int p0), .val (.int p1), .val (.int p2), .val (.int p3), .val (.int p4), .val (.int p5), .val (.int (3 : Int32)), .val (.int md), .val (.int ca), .val (.int d0), .val (.int d1), .val (.int d2), .val (.int y2), .val (.ref b1), .unset, .unset] [(.int (2 : Int32)), (.int md)]))
          by_cases hc157_104 : md.toInt = 2
          · refine OwnGo.fwd (fun tq' kq' => XS.icmpNo X71.here hx rfl (hb hby at_157) rfl (own_beq rfl (by decide) hc157_104).2 kq') ?_
            show OwnGo _ _ _ _ (T71.setTop (mkF m 160 #[.val (.int p0), .val (.int p1), .val (.int p2), .val (.int p3), .val (.int p4), .val (.int p5), .val (.int (3 : Int32)), .val (.int md), .val (.int ca), .val (.int d0), .val (.int d1), .val (.int d2), .val (.int y2), .val (.ref b1), .unset, .unset] []))
            refine OwnGo.fwd (fun tq' kq' => XS.iload X71.here hx rfl (hb hby at_160) rfl kq') ?_
            show OwnGo _ _ _ _ (T71.setTop (mkF m 162 #[.val (.int p0), .val (.int p1), .val (.int p2), .val (.int p3), .val (.int p4), .val (.int p5), .val (.int (3 : Int32)), .val (.int md), .val (.int ca), .val (.int d0), .val (.int d1), .val (.int d2), .val (.int y2), .val (.ref b1), .unset, .unset] [(.int d2)]))
            refine OwnGo.fwd (fun tq' kq' => XS.istore X71.here hx rfl (hb hby at_162) rfl (l' := #[.val (.int p0), .val (.int p1), .val (.int p2), .val (.int p3), .val (.int p4), .val (.int p5), .val (.int (3 : Int32)), .val (.int md), .val (.int ca), .val (.int d0), .val (.int d1), .val (.int d2), .val (.int y2), .val (.ref b1), .val (.int d2), .unset]) rfl kq') ?_
            show OwnGo _ _ _ _ (T71.setTop (mkF m 164 #[.val (.int p0), .val (.int p1), .val (.int p2), .val (.int p3), .val (.int p4), .val (.int p5), .val (.int (3 : Int32)), .val (.int md), .val (.int ca), .val (.int d0), .val (.int d1), .val (.int d2), .val (.int y2), .val (.ref b1), .val (.int d2), .unset] []))
            refine OwnGo.fwd (fun tq' kq' => XS.goto X71.here hx rfl (pc0 := 164) (pc' := 216) rfl (hb hby at_164) (by decide) (by decide) kq') ?_
            show OwnGo _ _ _ _ (T71.setTop (mkF m 216 #[.val (.int p0), .val (.int p1), .val (.int p2), .val (.int p3), .val (.int p4), .val (.int p5), .val (.int (3 : Int32)), .val (.int md), .val (.int ca), .val (.int d0), .val (.int d1), .val (.int d2), .val (.int y2), .val (.ref b1), .val (.int d2), .unset] []))
            exact J216 _
          · refine OwnGo.fwd (fun tq' kq' => XS.icmpYes X71.here hx rfl (pc0 := 157) (pc' := 167) rfl (hb hby at_157) rfl (own_bneq rfl (by decide) hc157_104).2 (by decide) (by decide) kq') ?_
            show OwnGo _ _ _ _ (T71.setTop (mkF m 167 #[.val (.int p0), .val (.int p1), .val (.int p2), .val (.int p3), .val (.int p4), .val (.int p5), .val (.int (3 : Int32)), .val (.int md), .val (.int ca), .val (.int d0), .val (.int d1), .val (.int d2), .val (.int y2), .val (.ref b1), .unset, .unset] []))
            refine OwnGo.fwd (fun tq' kq' => XS.iload X71.here hx rfl (hb hby at_167) rfl kq') ?_
            show OwnGo _ _ _ _ (T71.setTop (mkF m 169 #[.val (.int p0), .val (.int p1), .val (.int p2), .val (.int p3), .val (.int p4), .val (.int p5), .val (.int (3 : Int32)), .val (.int md), .val (.int ca), .val (.int d0), .val (.int d1), .val (.int d2), .val (.int y2), .val (.ref b1), .unset, .unset] [(.int md)]))
            refine OwnGo.fwd (fun tq' kq' => XS.iconst X71.here hx rfl (hb hby at_169) kq') ?_
            show OwnGo _ _ _ _ (T71.setTop (mkF m 170 #[.val (.int p0), .val (.int p1), .val (.int p2), .val (.int p3), .val (.int p4), .val (.int p5), .val (.int (3 : Int32)), .val (.int md), .val (.int ca), .val (.int d0), .val (.int d1), .val (.int d2), .val (.int y2), .val (.ref b1), .unset, .unset] [(.int (3 : Int32)), (.int md)]))
            by_cases hc170_105 : md.toInt = 3
            · refine OwnGo.fwd (fun tq' kq' => XS.icmpNo X71.here hx rfl (hb hby at_170) rfl (own_beq rfl (by decide) hc170_105).2 kq') ?_
              show OwnGo _ _ _ _ (T71.setTop (mkF m 173 #[.val (.int p0), .val (.int p1), .val (.int p2), .val (.int p3), .val (.int p4), .val (.int p5), .val (.int (3 : Int32)), .val (.int md), .val (.int ca), .val (.int d0), .val (.int d1), .val (.int d2), .val (.int y2), .val (.ref b1), .unset, .unset] []))
              refine OwnGo.fwd (fun tq' kq' => XS.iload X71.here hx rfl (hb hby at_173) rfl kq') ?_
              show OwnGo _ _ _ _ (T71.setTop (mkF m 175 #[.val (.int p0), .val (.int p1), .val (.int p2), .val (.int p3), .val (.int p4), .val (.int p5), .val (.int (3 : Int32)), .val (.int md), .val (.int ca), .val (.int d0), .val (.int d1), .val (.int d2), .val (.int y2), .val (.ref b1), .unset, .unset] [(.int d0)]))
              refine OwnGo.fwd (fun tq' kq' => XS.iconst X71.here hx rfl (hb hby at_175) kq') ?_
              show OwnGo _ _ _ _ (T71.setTop (mkF m 176 #[.val (.int p0), .val (.int p1), .val (.int p2), .val (.int p3), .val (.int p4), .val (.int p5), .val (.int (3 : Int32)), .val (.int md), .val (.int ca), .val (.int d0), .val (.int d1), .val (.int d2), .val (.int y2), .val (.ref b1), .unset, .unset] [(.int (1 : Int32)), (.int d0)]))
              refine OwnGo.fwd (fun tq' kq' => XS.isub X71.here hx rfl (hb hby at_176) rfl kq') ?_
              show OwnGo _ _ _ _ (T71.setTop (mkF m 177 #[.val (.int p0), .val (.int p1), .val (.int p2), .val (.int p3), .val (.int p4), .val (.int p5), .val (.int (3 : Int32)), .val (.int md), .val (.int ca), .val (.int d0), .val (.int d1), .val (.int d2), .val (.int y2), .val (.ref b1), .unset, .unset] [(.int (d0 - (1 : Int32)))]))
              refine OwnGo.fwd (fun tq' kq' => XS.istore X71.here hx rfl (hb hby at_177) rfl (l' := #[.val (.int p0), .val (.int p1), .val (.int p2), .val (.int p3), .val (.int p4), .val (.int p5), .val (.int (3 : Int32)), .val (.int md), .val (.int ca), .val (.int d0), .val (.int d1), .val (.int d2), .val (.int y2), .val (.ref b1), .val (.int (d0 - (1 : Int32))), .unset]) rfl kq') ?_
              show OwnGo _ _ _ _ (T71.setTop (mkF m 179 #[.val (.int p0), .val (.int p1), .val (.int p2), .val (.int p3), .val (.int p4), .val (.int p5), .val (.int (3 : Int32)), .val (.int md), .val (.int ca), .val (.int d0), .val (.int d1), .val (.int d2), .val (.int y2), .val (.ref b1), .val (.int (d0 - (1 : Int32))), .unset] []))
              refine OwnGo.fwd (fun tq' kq' => XS.goto X71.here hx rfl (pc0 := 179) (pc' := 216) rfl (hb hby at_179) (by decide) (by decide) kq') ?_
              show OwnGo _ _ _ _ (T71.setTop (mkF m 216 #[.val (.int p0), .val (.int p1), .val (.int p2), .val (.int p3), .val (.int p4), .val (.int p5), .val (.int (3 : Int32)), .val (.int md), .val (.int ca), .val (.int d0), .val (.int d1), .val (.int d2), .val (.int y2), .val (.ref b1), .val (.int (d0 - (1 : Int32))), .unset] []))
              exact J216 _
            · refine OwnGo.fwd (fun tq' kq' => XS.icmpYes X71.here hx rfl (pc0 := 170) (pc' := 182) rfl (hb hby at_170) rfl (own_bneq rfl (by decide) hc170_105).2 (by decide) (by decide) kq') ?_
              show OwnGo _ _ _ _ (T71.setTop (mkF m 182 #[.val (.int p0), .val (.int p1), .val (.int p2), .val (.int p3), .val (.int p4), .val (.int p5), .val (.int (3 : Int32)), .val (.int md), .val (.int ca), .val (.int d0), .val (.int d1), .val (.int d2), .val (.int y2), .val (.ref b1), .unset, .unset] []))
              refine OwnGo.fwd (fun tq' kq' => XS.iload X71.here hx rfl (hb hby at_182) rfl kq') ?_
              show OwnGo _ _ _ _ (T71.setTop (mkF m 184 #[.val (.int p0), .val (.int p1), .val (.int p2), .val (.int p3), .val (.int p4), .val (.int p5), .val (.int (3 : Int32)), .val (.int md), .val (.int ca), .val (.int d0), .val (.int d1), .val (.int d2), .val (.int y2), .val (.ref b1), .unset, .unset] [(.int md)]))
              refine OwnGo.fwd (fun tq' kq' => XS.iconst X71.here hx rfl (hb hby at_184) kq') ?_
              show OwnGo _ _ _ _ (T71.setTop (mkF m 185 #[.val (.int p0), .val (.int p1), .val (.int p2), .val (.int p3), .val (.int p4), .val (.int p5), .val (.int (3 : Int32)), .val (.int md), .val (.int ca), .val (.int d0), .val (.int d1), .val (.int d2), .val (.int y2), .val (.ref b1), .unset, .unset] [(.int (4 : Int32)), (.int md)]))
              by_cases hc185_106 : md.toInt = 4
              · refine OwnGo.fwd (fun tq' kq' => XS.icmpNo X71.here hx rfl (hb hby at_185) rfl (own_beq rfl (by decide) hc185_106).2 kq') ?_
                show OwnGo _ _ _ _ (T71.setTop (mkF m 188 #[.val (.int p0), .val (.int p1), .val (.int p2), .val (.int p3), .val (.int p4), .val (.int p5), .val (.int (3 : Int32)), .val (.int md), .val (.int ca), .val (.int d0), .val (.int d1), .val (.int d2), .val (.int y2), .val (.ref b1), .unset, .unset] []))
                refine OwnGo.fwd (fun tq' kq' => XS.iload X71.here hx rfl (hb hby at_188) rfl kq') ?_
                show OwnGo _ _ _ _ (T71.setTop (mkF m 190 #[.val (.int p0), .val (.int p1), .val (.int p2), .val (.int p3), .val (.int p4), .val (.int p5), .val (.int (3 : Int32)), .val (.int md), .val (.int ca), .val (.int d0), .val (.int d1), .val (.int d2), .val (.int y2), .val (.ref b1), .unset, .unset] [(.int d1)]))
                refine OwnGo.fwd (fun tq' kq' => XS.iconst X71.here hx rfl (hb hby at_190) kq') ?_
                show OwnGo _ _ _ _ (T71.setTop (mkF m 191 #[.val (.int p0), .val (.int p1), .val (.int p2), .val (.int p3), .val (.int p4), .val (.int p5), .val (.int (3 : Int32)), .val (.int md), .val (.int ca), .val (.int d0), .val (.int d1), .val (.int d2), .val (.int y2), .val (.ref b1), .unset, .unset] [(.int (1 : Int32)), (.int d1)]))
                refine OwnGo.fwd (fun tq' kq' => XS.isub X71.here hx rfl (hb hby at_191) rfl kq') ?_
                show OwnGo _ _ _ _ (T71.setTop (mkF m 192 #[.val (.int p0), .val (.int p1), .val (.int p2), .val (.int p3), .val (.int p4), .val (.int p5), .val (.int (3 : Int32)), .val (.int md), .val (.int ca), .val (.int d0), .val (.int d1), .val (.int d2), .val (.int y2), .val (.ref b1), .unset, .unset] [(.int (d1 - (1 : Int32)))]))
                refine OwnGo.fwd (fun tq' kq' => XS.istore X71.here hx rfl (hb hby at_192) rfl (l' := #[.val (.int p0), .val (.int p1), .val (.int p2), .val (.int p3), .val (.int p4), .val (.int p5), .val (.int (3 : Int32)), .val (.int md), .val (.int ca), .val (.int d0), .val (.int d1), .val (.int d2), .val (.int y2), .val (.ref b1), .val (.int (d1 - (1 : Int32))), .unset]) rfl kq') ?_
                show OwnGo _ _ _ _ (T71.setTop (mkF m 194 #[.val (.int p0), .val (.int p1), .val (.int p2), .val (.int p3), .val (.int p4), .val (.int p5), .val (.int (3 : Int32)), .val (.int md), .val (.int ca), .val (.int d0), .val (.int d1), .val (.int d2), .val (.int y2), .val (.ref b1), .val (.int (d1 - (1 : Int32))), .unset] []))
                refine OwnGo.fwd (fun tq' kq' => XS.goto X71.here hx rfl (pc0 := 194) (pc' := 216) rfl (hb hby at_194) (by decide) (by decide) kq') ?_
                show OwnGo _ _ _ _ (T71.setTop (mkF m 216 #[.val (.int p0), .val (.int p1), .val (.int p2), .val (.int p3), .val (.int p4), .val (.int p5), .val (.int (3 : Int32)), .val (.int md), .val (.int ca), .val (.int d0), .val (.int d1), .val (.int d2), .val (.int y2), .val (.ref b1), .val (.int (d1 - (1 : Int32))), .unset] []))
                exact J216 _
              · refine OwnGo.fwd (fun tq' kq' => XS.icmpYes X71.here hx rfl (pc0 := 185) (pc' := 197) rfl (hb hby at_185) rfl (own_bneq rfl (by decide) hc185_106).2 (by decide) (by decide) kq') ?_
                show OwnGo _ _ _ _ (T71.setTop (mkF m 197 #[.val (.int p0), .val (.int p1), .val (.int p2), .val (.int p3), .val (.int p4), .val (.int p5), .val (.int (3 : Int32)), .val (.int md), .val (.int ca), .val (.int d0), .val (.int d1), .val (.int d2), .val (.int y2), .val (.ref b1), .unset, .unset] []))
                refine OwnGo.fwd (fun tq' kq' => XS.iload X71.here hx rfl (hb hby at_197) rfl kq') ?_
                show OwnGo _ _ _ _ (T71.setTop (mkF m 199 #[.val (.int p0), .val (.int p1), .val (.int p2), .val (.int p3), .val (.int p4), .val (.int p5), .val (.int (3 : Int32)), .val (.int md), .val (.int ca), .val (.int d0), .val (.int d1), .val (.int d2), .val (.int y2), .val (.ref b1), .unset, .unset] [(.int md)]))
                refine OwnGo.fwd (fun tq' kq' => XS.iconst X71.here hx rfl (hb hby at_199) kq') ?_
                show OwnGo _ _ _ _ (T71.setTop (mkF m 200 #[.val (.int p0), .val (.int p1), .val (.int p2), .val (.int p3), .val (.int p4), .val (.int p5), .val (.int (3 : Int32)), .val (.int md), .val (.int ca), .val (.int d0), .val (.int d1), .val (.int d2), .val (.int y2), .val (.ref b1), .unset, .unset] [(.int (5 : Int32)), (.int md)]))
                by_cases hc200_107 : md.toInt = 5
                · refine OwnGo.fwd (fun tq' kq' => XS.icmpNo X71.here hx rfl (hb hby at_200) rfl (own_beq rfl (by decide) hc200_107).2 kq') ?_
                  show OwnGo _ _ _ _ (T71.setTop (mkF m 203 #[.val (.int p0), .val (.int p1), .val (.int p2), .val (.int p3), .val (.int p4), .val (.int p5), .val (.int (3 : Int32)), .val (.int md), .val (.int ca), .val (.int d0), .val (.int d1), .val (.int d2), .val (.int y2), .val (.ref b1), .unset, .unset] []))
                  refine OwnGo.fwd (fun tq' kq' => XS.iload X71.here hx rfl (hb hby at_203) rfl kq') ?_
                  show OwnGo _ _ _ _ (T71.setTop (mkF m 205 #[.val (.int p0), .val (.int p1), .val (.int p2), .val (.int p3), .val (.int p4), .val (.int p5), .val (.int (3 : Int32)), .val (.int md), .val (.int ca), .val (.int d0), .val (.int d1), .val (.int d2), .val (.int y2), .val (.ref b1), .unset, .unset] [(.int d2)]))
                  refine OwnGo.fwd (fun tq' kq' => XS.iconst X71.here hx rfl (hb hby at_205) kq') ?_
                  show OwnGo _ _ _ _ (T71.setTop (mkF m 206 #[.val (.int p0), .val (.int p1), .val (.int p2), .val (.int p3), .val (.int p4), .val (.int p5), .val (.int (3 : Int32)), .val (.int md), .val (.int ca), .val (.int d0), .val (.int d1), .val (.int d2), .val (.int y2), .val (.ref b1), .unset, .unset] [(.int (1 : Int32)), (.int d2)]))
                  refine OwnGo.fwd (fun tq' kq' => XS.iadd X71.here hx rfl (hb hby at_206) rfl kq') ?_
                  show OwnGo _ _ _ _ (T71.setTop (mkF m 207 #[.val (.int p0), .val (.int p1), .val (.int p2), .val (.int p3), .val (.int p4), .val (.int p5), .val (.int (3 : Int32)), .val (.int md), .val (.int ca), .val (.int d0), .val (.int d1), .val (.int d2), .val (.int y2), .val (.ref b1), .unset, .unset] [(.int (d2 + (1 : Int32)))]))
                  refine OwnGo.fwd (fun tq' kq' => XS.istore X71.here hx rfl (hb hby at_207) rfl (l' := #[.val (.int p0), .val (.int p1), .val (.int p2), .val (.int p3), .val (.int p4), .val (.int p5), .val (.int (3 : Int32)), .val (.int md), .val (.int ca), .val (.int d0), .val (.int d1), .val (.int d2), .val (.int y2), .val (.ref b1), .val (.int (d2 + (1 : Int32))), .unset]) rfl kq') ?_
                  show OwnGo _ _ _ _ (T71.setTop (mkF m 209 #[.val (.int p0), .val (.int p1), .val (.int p2), .val (.int p3), .val (.int p4), .val (.int p5), .val (.int (3 : Int32)), .val (.int md), .val (.int ca), .val (.int d0), .val (.int d1), .val (.int d2), .val (.int y2), .val (.ref b1), .val (.int (d2 + (1 : Int32))), .unset] []))
                  refine OwnGo.fwd (fun tq' kq' => XS.goto X71.here hx rfl (pc0 := 209) (pc' := 216) rfl (hb hby at_209) (by decide) (by decide) kq') ?_
                  show OwnGo _ _ _ _ (T71.setTop (mkF m 216 #[.val (.int p0), .val (.int p1), .val (.int p2), .val (.int p3), .val (.int p4), .val (.int p5), .val (.int (3 : Int32)), .val (.int md), .val (.int ca), .val (.int d0), .val (.int d1), .val (.int d2), .val (.int y2), .val (.ref b1), .val (.int (d2 + (1 : Int32))), .unset] []))
                  exact J216 _
                · refine OwnGo.fwd (fun tq' kq' => XS.icmpYes X71.here hx rfl (pc0 := 200) (pc' := 212) rfl (hb hby at_200) rfl (own_bneq rfl (by decide) hc200_107).2 (by decide) (by decide) kq') ?_
                  show OwnGo _ _ _ _ (T71.setTop (mkF m 212 #[.val (.int p0), .val (.int p1), .val (.int p2), .val (.int p3), .val (.int p4), .val (.int p5), .val (.int (3 : Int32)), .val (.int md), .val (.int ca), .val (.int d0), .val (.int d1), .val (.int d2), .val (.int y2), .val (.ref b1), .unset, .unset] []))
                  refine OwnGo.fwd (fun tq' kq' => XS.iload X71.here hx rfl (hb hby at_212) rfl kq') ?_
                  show OwnGo _ _ _ _ (T71.setTop (mkF m 214 #[.val (.int p0), .val (.int p1), .val (.int p2), .val (.int p3), .val (.int p4), .val (.int p5), .val (.int (3 : Int32)), .val (.int md), .val (.int ca), .val (.int d0), .val (.int d1), .val (.int d2), .val (.int y2), .val (.ref b1), .unset, .unset] [(.int p5)]))
                  refine OwnGo.fwd (fun tq' kq' => XS.istore X71.here hx rfl (hb hby at_214) rfl (l' := #[.val (.int p0), .val (.int p1), .val (.int p2), .val (.int p3), .val (.int p4), .val (.int p5), .val (.int (3 : Int32)), .val (.int md), .val (.int ca), .val (.int d0), .val (.int d1), .val (.int d2), .val (.int y2), .val (.ref b1), .val (.int p5), .unset]) rfl kq') ?_
                  show OwnGo _ _ _ _ (T71.setTop (mkF m 216 #[.val (.int p0), .val (.int p1), .val (.int p2), .val (.int p3), .val (.int p4), .val (.int p5), .val (.int (3 : Int32)), .val (.int md), .val (.int ca), .val (.int d0), .val (.int d1), .val (.int d2), .val (.int y2), .val (.ref b1), .val (.int p5), .unset] []))
                  exact J216 _
  by_cases hc29_108 : 2147483047 < p1.toInt
  · refine OwnGo.fwd (fun tq' kq' => XS.icmpNo X0.here hx rfl (hb hby at_29) rfl (own_blt (by decide) rfl hc29_108).2.2.2 kq') ?_
    show OwnGo _ _ _ _ (s₁.setTop (mkF m 32 #[.val (.int p0), .val (.int p1), .val (.int p2), .val (.int p3), .val (.int p4), .val (.int p5), .val (.int nn), .val (.int md), .val (.int ca), .unset, .unset, .unset, .unset, .unset, .unset, .unset] []))
    refine OwnGo.fwd (fun tq' kq' => XS.iloadN X0.here hx rfl (hb hby at_32) rfl kq') ?_
    show OwnGo _ _ _ _ (s₁.setTop (mkF m 33 #[.val (.int p0), .val (.int p1), .val (.int p2), .val (.int p3), .val (.int p4), .val (.int p5), .val (.int nn), .val (.int md), .val (.int ca), .unset, .unset, .unset, .unset, .unset, .unset, .unset] [(.int p1)]))
    refine OwnGo.fwd (fun tq' kq' => XS.sipush X0.here hx rfl (hb hby at_33) kq') ?_
    show OwnGo _ _ _ _ (s₁.setTop (mkF m 36 #[.val (.int p0), .val (.int p1), .val (.int p2), .val (.int p3), .val (.int p4), .val (.int p5), .val (.int nn), .val (.int md), .val (.int ca), .unset, .unset, .unset, .unset, .unset, .unset, .unset] [(.int (600 : Int32)), (.int p1)]))
    refine OwnGo.fwd (fun tq' kq' => XS.isub X0.here hx rfl (hb hby at_36) rfl kq') ?_
    show OwnGo _ _ _ _ (s₁.setTop (mkF m 37 #[.val (.int p0), .val (.int p1), .val (.int p2), .val (.int p3), .val (.int p4), .val (.int p5), .val (.int nn), .val (.int md), .val (.int ca), .unset, .unset, .unset, .unset, .unset, .unset, .unset] [(.int (p1 - (600 : Int32)))]))
    refine OwnGo.fwd (fun tq' kq' => XS.goto X0.here hx rfl (pc0 := 37) (pc' := 41) rfl (hb hby at_37) (by decide) (by decide) kq') ?_
    show OwnGo _ _ _ _ (s₁.setTop (mkF m 41 #[.val (.int p0), .val (.int p1), .val (.int p2), .val (.int p3), .val (.int p4), .val (.int p5), .val (.int nn), .val (.int md), .val (.int ca), .unset, .unset, .unset, .unset, .unset, .unset, .unset] [(.int (p1 - (600 : Int32)))]))
    exact J41 _ (by
      have c1 := c_isub p1 (600 : Int32)
      have e6 : (600 : Int32).toInt = 600 := by decide
      have r1 := rng32 p1
      have r2 := rng32 (p1 - (600 : Int32))
      omega)
  · refine OwnGo.fwd (fun tq' kq' => XS.icmpYes X0.here hx rfl (pc0 := 29) (pc' := 40) rfl (hb hby at_29) rfl (own_bnlt (by decide) rfl hc29_108).2.2.2 (by decide) (by decide) kq') ?_
    show OwnGo _ _ _ _ (s₁.setTop (mkF m 40 #[.val (.int p0), .val (.int p1), .val (.int p2), .val (.int p3), .val (.int p4), .val (.int p5), .val (.int nn), .val (.int md), .val (.int ca), .unset, .unset, .unset, .unset, .unset, .unset, .unset] []))
    refine OwnGo.fwd (fun tq' kq' => XS.iloadN X0.here hx rfl (hb hby at_40) rfl kq') ?_
    show OwnGo _ _ _ _ (s₁.setTop (mkF m 41 #[.val (.int p0), .val (.int p1), .val (.int p2), .val (.int p3), .val (.int p4), .val (.int p5), .val (.int nn), .val (.int md), .val (.int ca), .unset, .unset, .unset, .unset, .unset, .unset, .unset] [(.int p1)]))
    exact J41 _ (by omega)
set_option maxRecDepth 65536 in
set_option maxHeartbeats 40000000 in
theorem comes_1 {Post : Tables → Env → Array Value → State → Outcome → State → Prop} (hpost : ∀ tb e args s v u, (limb_1_1.after args s (.returned v) u = true ∧ limb_1_2.after args s (.returned v) u = true ∧ True) → FrameEnd s (.returned v) u (Jvm.fieldLocs frame_1_writes args s ++ Jvm.arrayLocs frame_1_arrays args s ++ Jvm.staticLocs frame_1_statics s) 24 128 → Post tb e args s (.returned v) u) :
    ArmFor flags0 classFile x code maxLocals ret World_1 tables_1 room_1 Calls_1 rest_1 Pre_1 Post := by
  intro l hfl _ _ p e ha hc hk s m args below hf hA hF happ hP
  obtain ⟨hcalls, hrest, hpre⟩ := hP
  obtain ⟨-, -, -, hnamed, -, -, -, hat⟩ := (Spec.applies_iff hf).mp happ
  obtain ⟨hg, hn⟩ := and_e (Cond.before_iff.mp (show (Jvm.Cond.and given_1 narrow_1).before args s = true from hpre))
  obtain ⟨gc, gr0⟩ := and_e hg
  obtain ⟨ga0, gr1⟩ := and_e gr0
  obtain ⟨ga1, gr2⟩ := and_e gr1
  obtain ⟨ga2, gr3⟩ := and_e gr2
  obtain ⟨ga3, gr4⟩ := and_e gr3
  obtain ⟨ga4, gr5⟩ := and_e gr4
  obtain ⟨w0, w1, w2, w3, w4, w5, rfl⟩ : ∃ w0 w1 w2 w3 w4 w5 : Value, args = #[w0, w1, w2, w3, w4, w5] := by
    have hs : args.size = 6 := by simpa [Cond.value, given_1] using gc
    obtain ⟨L⟩ := args
    match L, hs with
    | [w0, w1, w2, w3, w4, w5], _ => exact ⟨w0, w1, w2, w3, w4, w5, rfl⟩
  have hw := fun d (hd : d ∈ tables_1) => atoms_spec (ws := Jvm.Cond.code x code maxLocals ret :: tables_1) hat d (List.mem_cons_of_mem _ hd)
  have hfit : Fit s := fun {y c} hc i hi => by
    obtain ⟨ha, rfl⟩ := Array.getElem?_eq_some_iff.mp hc
    have q := List.all_eq_true.mp ((Array.all_eq_true_iff_forall_mem.mp hF) _ (Array.getElem_mem ha)) i (List.mem_range.mpr hi)
    simpa [Array.getElem?_eq_getElem hi] using q
  obtain ⟨i0, ei0⟩ := is_v ga0
  obtain rfl : w0 = (.int i0) := Option.some.inj ei0
  obtain ⟨i1, ei1⟩ := is_v ga1
  obtain rfl : w1 = (.int i1) := Option.some.inj ei1
  obtain ⟨i2, ei2⟩ := is_v ga2
  obtain rfl : w2 = (.int i2) := Option.some.inj ei2
  obtain ⟨i3, ei3⟩ := is_v ga3
  obtain rfl : w3 = (.int i3) := Option.some.inj ei3
  obtain ⟨i4, ei4⟩ := is_v ga4
  obtain rfl : w4 = (.int i4) := Option.some.inj ei4
  obtain ⟨i5, ei5⟩ := is_v gr5
  obtain rfl : w5 = (.int i5) := Option.some.inj ei5
  obtain ⟨n, o, h1, h2, h3, _, L, rfl, ⟨rfl, N⟩, hq⟩ := rm0 l s _ hw tables_1 i0 i1 i2 i3 i4 i5 s.heap s.heap.size (Nat.le_refl _) p e ha hc hk s m _ below hf ((Spec.applies_iff_loose hf).mp happ).1 ⟨rfl, State.Warmed39.refl s, rfl⟩ trivial
  refine ⟨n, _, h1, h2, h3, hpost _ _ _ _ _ _ ⟨Cond.after_iff.mpr rfl, Cond.after_iff.mpr (eq_i res_at (Term.int_eval (1)) rfl), trivial⟩ ⟨hq.1, hq.2.1, (hq.2.2.sift fun y hy => Or.inr (N y hy)).mono (by decide) (by decide)⟩⟩
theorem main_1_1 : Claimed_1_1 := comes_1 fun _ _ _ _ _ _ h hF => ⟨h.1, hF⟩
theorem main_1_2 : Claimed_1_2 := comes_1 fun _ _ _ _ _ _ h hF => ⟨h.2.1, hF⟩
end Jvm.Pilot.@@N@@
namespace Jvm.Pilot.@@N@@
open Jvm Jvm.ClassFile Sem Op Lib Jvm.Free Jvm.Stand Jvm.Pilot.@@N@@.Jvm.D
/-! MADE BY PROGRAM (witnessworld.py) out of the Statement's table words and the real class files: 12 classes; the members and pool entries that the words name. The judged class is class 1, her method 1. -/
namespace start1
open Jvm.ClassFile
def u (s : String) : CpInfo := .utf8 (stringToUtf16 s)
/-- a pool by its gaps: so many unusable entries, then the entry; so many at the end -/
def gap : Nat → List CpInfo → List CpInfo
  | 0, r => r
  | n + 1, r => .unusable :: gap n r
def poolList (es : List (Nat × CpInfo)) (last : Nat) : List CpInfo := es.foldr (fun e r => gap e.1 (e.2 :: r)) (gap last [])
def pool (es : List (Nat × CpInfo)) (last : Nat) : Array CpInfo := ⟨poolList es last⟩
def fileOf (pool : Array CpInfo) (this : Nat) (attrs : Array Attribute := #[]) (ms : Array MethodInfo := #[]) (fl : Nat := 33) (sup : Nat := 0) (ifs : Array Nat := #[]) (fds : Array FieldInfo := #[]) : ClassFile where
  minorVersion := 0
  majorVersion := 65
  constantPool := pool
  accessFlags := fl
  thisClass := this
  superClass := sup
  interfaces := ifs
  fields := fds
  methods := ms
  attributes := attrs
def plain (name : String) (sup : Option ClassId) : Class where
  name := name
  kind := .ordinary
  loader := none
  accessFlags := 33
  super := sup
  interfaces := #[]
  cf := none
  fields := #[]
  methods := #[]
  instanceTypes := #[]
  staticTypes := #[]
  resolved := #[]
  callSites := []
  init := .initialized
  statics := none
  mirror := none

def pool0 : Array CpInfo := pool [(5, u "<init>"), (0, u "()V"), (1, .class_ 10), (1, u "java/lang/Object")] 113

def k0c0 : Code := { maxStack := 0, maxLocals := 1, code := object_method_1_code, exceptionTable := #[], attributes := #[] }
def k0m0 : Method := { name := "<init>", desc := "()V", sig := { parameters := [], returnType := none }, accessFlags := 1, code := some k0c0 }
/-- java/lang/Object -/
def k0 : Class := { plain "java/lang/Object" none with
  accessFlags := 33
  interfaces := #[]
  cf := some (fileOf pool0 8 #[] #[{ accessFlags := 1, nameIndex := 5, descriptorIndex := 6, attributes := #[] }] 33 0 #[] #[])
  fields := #[]
  methods := #[k0m0]
  instanceTypes := #[]
  staticTypes := #[]
  resolved := Array.replicate 124 none
  statics := none }

def pool1 : Array CpInfo := pool [(2, .class_ 4), (1, u "java/lang/Object"), (0, u "<init>"), (0, u "()V"), (2, .integer 2147483047), (0, .class_ 11), (0, u "com/example/inverse_frequency/inversefrequency/Postings"), (0, .methodref 10 13), (0, .nameAndType 5 14), (0, u "(I)V"), (0, .methodref 10 16), (0, .nameAndType 17 18), (0, u "add"), (0, u "(II)V"), (0, .methodref 10 20), (0, .nameAndType 21 22), (0, u "frequencyIn"), (0, u "(I)I"), (0, .class_ 24), (0, u "com/example/inverse_frequency/inversefrequency/PostingsFrequencyInPinLaw"), (2, u "law"), (0, u "(IIIIII)Z")] 3

def k1m0 : Method := { name := "<init>", desc := "()V", sig := { parameters := [], returnType := none }, accessFlags := 1, code := none }
def k1c1 : Code := { maxStack := 3, maxLocals := 16, code := code, exceptionTable := #[], attributes := #[] }
def k1m1 : Method := { name := "law", desc := "(IIIIII)Z", sig := { parameters := [.int, .int, .int, .int, .int, .int], returnType := some .boolean }, accessFlags := 9, code := some k1c1 }
/-- com/example/inverse_frequency/inversefrequency/PostingsFrequencyInPinLaw -/
def k1 : Class := { plain "com/example/inverse_frequency/inversefrequency/PostingsFrequencyInPinLaw" (some 0) with
  accessFlags := 49
  interfaces := #[]
  cf := some (fileOf pool1 23 #[] #[{ accessFlags := 1, nameIndex := 5, descriptorIndex := 6, attributes := #[] }, { accessFlags := 9, nameIndex := 27, descriptorIndex := 28, attributes := #[] }] 49 2 #[] #[])
  fields := #[]
  methods := #[k1m0, k1m1]
  instanceTypes := #[]
  staticTypes := #[]
  resolved := Array.replicate 32 none
  statics := none }

def pool2 : Array CpInfo := pool [(2, .class_ 4), (1, u "com/example/inverse_frequency/inversefrequency/Postings"), (0, u "<init>"), (0, u "(I)V"), (0, .methodref 8 9), (0, .class_ 10), (0, .nameAndType 5 11), (0, u "java/lang/Object"), (0, u "()V"), (0, .methodref 13 14), (0, .class_ 15), (0, .nameAndType 16 17), (0, u "java/lang/Math"), (0, u "max"), (0, u "(II)I"), (0, .fieldref 2 19), (0, .nameAndType 20 21), (0, u "documents"), (0, u "[I"), (0, .fieldref 2 23), (0, .nameAndType 24 21), (0, u "frequencies"), (0, .fieldref 2 26), (0, .nameAndType 27 28), (0, u "size"), (0, u "I"), (0, .methodref 30 31), (0, .class_ 32), (0, .nameAndType 33 34), (0, u "java/util/Arrays"), (0, u "copyOf"), (0, u "([II)[I"), (0, .fieldref 2 36), (0, .nameAndType 37 38), (0, u "totalFrequency"), (0, u "J"), (0, .methodref 30 40), (0, .nameAndType 41 42), (0, u "binarySearch"), (0, u "([IIII)I"), (6, u "NONE"), (0, u "Lcom/example/inverse_frequency/inversefrequency/Postings;"), (2, u "add"), (0, u "(II)V"), (4, u "(I)I"), (1, u "frequencyIn")] 4

def k2m0 : Method := { name := "<init>", desc := "()V", sig := { parameters := [], returnType := none }, accessFlags := 0, code := none }
def k2c1 : Code := { maxStack := 3, maxLocals := 2, code := prog_33_method_2_code, exceptionTable := #[], attributes := #[] }
def k2m1 : Method := { name := "<init>", desc := "(I)V", sig := { parameters := [.int], returnType := none }, accessFlags := 0, code := some k2c1 }
def k2c2 : Code := { maxStack := 5, maxLocals := 3, code := prog_33_method_3_code, exceptionTable := #[], attributes := #[] }
def k2m2 : Method := { name := "add", desc := "(II)V", sig := { parameters := [.int, .int], returnType := none }, accessFlags := 0, code := some k2c2 }
def k2c3 : Code := { maxStack := 4, maxLocals := 3, code := prog_33_method_8_code, exceptionTable := #[], attributes := #[] }
def k2m3 : Method := { name := "frequencyIn", desc := "(I)I", sig := { parameters := [.int], returnType := some .int }, accessFlags := 0, code := some k2c3 }
/-- com/example/inverse_frequency/inversefrequency/Postings -/
def k2 : Class := { plain "com/example/inverse_frequency/inversefrequency/Postings" (some 0) with
  accessFlags := 32
  interfaces := #[]
  cf := some (fileOf pool2 2 #[] #[{ accessFlags := 0, nameIndex := 5, descriptorIndex := 11, attributes := #[] }, { accessFlags := 0, nameIndex := 5, descriptorIndex := 6, attributes := #[] }, { accessFlags := 0, nameIndex := 53, descriptorIndex := 54, attributes := #[] }, { accessFlags := 0, nameIndex := 61, descriptorIndex := 59, attributes := #[] }] 32 8 #[] #[{ accessFlags := 24, nameIndex := 49, descriptorIndex := 50, attributes := #[] }, { accessFlags := 2, nameIndex := 20, descriptorIndex := 21, attributes := #[] }, { accessFlags := 2, nameIndex := 24, descriptorIndex := 21, attributes := #[] }, { accessFlags := 2, nameIndex := 27, descriptorIndex := 28, attributes := #[] }, { accessFlags := 2, nameIndex := 37, descriptorIndex := 38, attributes := #[] }])
  fields := #[{ name := "NONE", type := (.object "com/example/inverse_frequency/inversefrequency/Postings"), accessFlags := 24, slot := 0, constantValue := 0 }, { name := "documents", type := (.array .int), accessFlags := 2, slot := 0, constantValue := 0 }, { name := "frequencies", type := (.array .int), accessFlags := 2, slot := 1, constantValue := 0 }, { name := "size", type := .int, accessFlags := 2, slot := 2, constantValue := 0 }, { name := "totalFrequency", type := .long, accessFlags := 2, slot := 3, constantValue := 0 }]
  methods := #[k2m0, k2m1, k2m2, k2m3]
  instanceTypes := #[(.array .int), (.array .int), .int, .long]
  staticTypes := #[(.object "com/example/inverse_frequency/inversefrequency/Postings")]
  resolved := Array.replicate 66 none
  statics := none }

def pool3 : Array CpInfo := pool [(1, .class_ 2), (0, u "java/lang/Math"), (1, .class_ 6), (1, u "java/lang/Object"), (0, u "<init>"), (0, u "()V"), (89, .class_ 100), (1, u "java/lang/Math$RandomNumberGeneratorHolder"), (71, u "negativeZeroFloatBits"), (0, u "J"), (2, u "negativeZeroDoubleBits"), (21, u "max"), (2, u "min"), (43, u "$assertionsDisabled"), (0, u "Z"), (88, u "(II)I"), (2, u "twoToTheDoubleScaleDown"), (0, u "D"), (4, u "twoToTheDoubleScaleUp"), (9, u "E"), (3, u "PI"), (2, u "TAU"), (2, u "DEGREES_TO_RADIANS"), (0, u "RADIANS_TO_DEGREES")] 94

def k3m0 : Method := { name := "<init>", desc := "()V", sig := { parameters := [], returnType := none }, accessFlags := 2, code := none }
def k3c1 : Code := { maxStack := 2, maxLocals := 2, code := jdk_29_method_65_code, exceptionTable := #[], attributes := #[] }
def k3m1 : Method := { name := "max", desc := "(II)I", sig := { parameters := [.int, .int], returnType := some .int }, accessFlags := 9, code := some k3c1 }
def k3c2 : Code := { maxStack := 2, maxLocals := 2, code := jdk_29_method_69_code, exceptionTable := #[], attributes := #[] }
def k3m2 : Method := { name := "min", desc := "(II)I", sig := { parameters := [.int, .int], returnType := some .int }, accessFlags := 9, code := some k3c2 }
/-- java/lang/Math -/
def k3 : Class := { plain "java/lang/Math" (some 0) with
  accessFlags := 49
  interfaces := #[]
  cf := some (fileOf pool3 1 #[.nestMembers #[98]] #[{ accessFlags := 2, nameIndex := 7, descriptorIndex := 8, attributes := #[] }, { accessFlags := 9, nameIndex := 198, descriptorIndex := 335, attributes := #[] }, { accessFlags := 9, nameIndex := 201, descriptorIndex := 335, attributes := #[] }] 49 4 #[] #[{ accessFlags := 25, nameIndex := 354, descriptorIndex := 339, attributes := #[] }, { accessFlags := 25, nameIndex := 358, descriptorIndex := 339, attributes := #[] }, { accessFlags := 25, nameIndex := 361, descriptorIndex := 339, attributes := #[] }, { accessFlags := 26, nameIndex := 364, descriptorIndex := 339, attributes := #[] }, { accessFlags := 26, nameIndex := 365, descriptorIndex := 339, attributes := #[] }, { accessFlags := 26, nameIndex := 172, descriptorIndex := 173, attributes := #[] }, { accessFlags := 26, nameIndex := 176, descriptorIndex := 173, attributes := #[] }, { accessFlags := 8, nameIndex := 344, descriptorIndex := 339, attributes := #[] }, { accessFlags := 8, nameIndex := 338, descriptorIndex := 339, attributes := #[] }, { accessFlags := 4120, nameIndex := 245, descriptorIndex := 246, attributes := #[] }])
  fields := #[{ name := "E", type := .double, accessFlags := 25, slot := 0, constantValue := 0 }, { name := "PI", type := .double, accessFlags := 25, slot := 1, constantValue := 0 }, { name := "TAU", type := .double, accessFlags := 25, slot := 2, constantValue := 0 }, { name := "DEGREES_TO_RADIANS", type := .double, accessFlags := 26, slot := 3, constantValue := 0 }, { name := "RADIANS_TO_DEGREES", type := .double, accessFlags := 26, slot := 4, constantValue := 0 }, { name := "negativeZeroFloatBits", type := .long, accessFlags := 26, slot := 5, constantValue := 0 }, { name := "negativeZeroDoubleBits", type := .long, accessFlags := 26, slot := 6, constantValue := 0 }, { name := "twoToTheDoubleScaleUp", type := .double, accessFlags := 8, slot := 7, constantValue := 0 }, { name := "twoToTheDoubleScaleDown", type := .double, accessFlags := 8, slot := 8, constantValue := 0 }, { name := "$assertionsDisabled", type := .boolean, accessFlags := 4120, slot := 9, constantValue := 0 }]
  methods := #[k3m0, k3m1, k3m2]
  instanceTypes := #[]
  staticTypes := #[.double, .double, .double, .double, .double, .long, .long, .double, .double, .boolean]
  resolved := Array.replicate 460 none
  statics := none }

def pool4 : Array CpInfo := pool [(2, .class_ 4), (1, u "java/lang/Object"), (0, u "<init>"), (0, u "()V"), (6, .methodref 14 15), (0, .class_ 16), (0, .nameAndType 17 18), (0, u "java/util/Arrays"), (0, u "rangeCheck"), (0, u "(III)V"), (55, .class_ 76), (1, u "java/util/Arrays$NaturalOrder"), (36, .class_ 115), (1, u "java/util/Arrays$LegacyMergeSort"), (1, u "Z"), (32, .methodref 151 152), (0, .class_ 153), (0, .nameAndType 154 155), (0, u "java/lang/System"), (0, u "arraycopy"), (0, u "(Ljava/lang/Object;ILjava/lang/Object;II)V"), (51, u "binarySearch0"), (1, .methodref 14 210), (0, .nameAndType 207 211), (0, u "([IIII)I"), (90, u "copyOf"), (1, .methodref 305 306), (0, .class_ 307), (0, .nameAndType 308 309), (0, u "java/lang/Math"), (0, u "min"), (0, u "(II)I"), (65, .class_ 376), (0, u "java/util/Arrays$ArrayList"), (68, u "$assertionsDisabled"), (269, u "MIN_ARRAY_SORT_GRAN"), (0, u "I"), (2, u "INSERTIONSORT_THRESHOLD"), (74, u "binarySearch"), (76, u "([II)[I"), (103, .class_ 976), (0, u "java/util/Arrays$ArrayItr")] 52

def k4m0 : Method := { name := "<init>", desc := "()V", sig := { parameters := [], returnType := none }, accessFlags := 2, code := none }
def k4c1 : Code := { maxStack := 4, maxLocals := 3, code := jdk_65_method_30_code, exceptionTable := #[], attributes := #[] }
def k4m1 : Method := { name := "rangeCheck", desc := "(III)V", sig := { parameters := [.int, .int, .int], returnType := none }, accessFlags := 8, code := some k4c1 }
def k4c2 : Code := { maxStack := 4, maxLocals := 4, code := jdk_65_method_58_code, exceptionTable := #[], attributes := #[] }
def k4m2 : Method := { name := "binarySearch", desc := "([IIII)I", sig := { parameters := [(.array .int), .int, .int, .int], returnType := some .int }, accessFlags := 9, code := some k4c2 }
def k4c3 : Code := { maxStack := 2, maxLocals := 8, code := jdk_65_method_59_code, exceptionTable := #[], attributes := #[] }
def k4m3 : Method := { name := "binarySearch0", desc := "([IIII)I", sig := { parameters := [(.array .int), .int, .int, .int], returnType := some .int }, accessFlags := 10, code := some k4c3 }
def k4c4 : Code := { maxStack := 6, maxLocals := 3, code := jdk_65_method_123_code, exceptionTable := #[], attributes := #[] }
def k4m4 : Method := { name := "copyOf", desc := "([II)[I", sig := { parameters := [(.array .int), .int], returnType := some (.array .int) }, accessFlags := 9, code := some k4c4 }
/-- java/util/Arrays -/
def k4 : Class := { plain "java/util/Arrays" (some 0) with
  accessFlags := 49
  interfaces := #[]
  cf := some (fileOf pool4 14 #[.nestMembers #[975, 375, 113, 74]] #[{ accessFlags := 2, nameIndex := 5, descriptorIndex := 6, attributes := #[] }, { accessFlags := 8, nameIndex := 17, descriptorIndex := 18, attributes := #[] }, { accessFlags := 9, nameIndex := 794, descriptorIndex := 211, attributes := #[] }, { accessFlags := 10, nameIndex := 207, descriptorIndex := 211, attributes := #[] }, { accessFlags := 9, nameIndex := 302, descriptorIndex := 871, attributes := #[] }] 49 2 #[] #[{ accessFlags := 26, nameIndex := 715, descriptorIndex := 716, attributes := #[] }, { accessFlags := 26, nameIndex := 719, descriptorIndex := 716, attributes := #[] }, { accessFlags := 4120, nameIndex := 445, descriptorIndex := 117, attributes := #[] }])
  fields := #[{ name := "MIN_ARRAY_SORT_GRAN", type := .int, accessFlags := 26, slot := 0, constantValue := 0 }, { name := "INSERTIONSORT_THRESHOLD", type := .int, accessFlags := 26, slot := 1, constantValue := 0 }, { name := "$assertionsDisabled", type := .boolean, accessFlags := 4120, slot := 2, constantValue := 0 }]
  methods := #[k4m0, k4m1, k4m2, k4m3, k4m4]
  instanceTypes := #[]
  staticTypes := #[.int, .int, .boolean]
  resolved := Array.replicate 1029 none
  statics := none }

def pool5 : Array CpInfo := pool [(2, .class_ 4), (1, u "java/lang/Object"), (0, u "<init>"), (0, u "()V"), (1, .class_ 10), (1, u "java/lang/System"), (0, u "allowSecurityManager"), (0, u "I"), (16, u "cons"), (0, u "Ljava/io/Console;"), (77, .class_ 110), (1, u "java/lang/System$CallersHolder"), (43, u "initialErrStream"), (0, u "Ljava/io/PrintStream;"), (19, u "security"), (0, u "Ljava/lang/SecurityManager;"), (31, .class_ 209), (0, u "java/lang/System$1"), (7, u "props"), (0, u "Ljava/util/Properties;"), (2, u "lineSeparator"), (0, u "Ljava/lang/String;"), (96, .class_ 321), (1, u "java/lang/System$LoggerFinder"), (5, .class_ 328), (0, u "java/lang/System$Logger"), (67, u "err"), (2, u "out"), (91, u "notSupportedJnuEncoding"), (15, u "in"), (17, u "initialIn"), (0, u "Ljava/io/InputStream;"), (35, u "bootLayer"), (0, u "Ljava/lang/ModuleLayer;"), (99, .class_ 664), (0, u "java/lang/System$2"), (9, u "NEVER"), (2, u "MAYBE"), (49, u "arraycopy"), (0, u "(Ljava/lang/Object;ILjava/lang/Object;II)V"), (72, .class_ 802), (0, u "java/lang/System$Logger$Level")] 31

def k5m0 : Method := { name := "<init>", desc := "()V", sig := { parameters := [], returnType := none }, accessFlags := 2, code := none }
def k5m1 : Method := { name := "arraycopy", desc := "(Ljava/lang/Object;ILjava/lang/Object;II)V", sig := { parameters := [(.object "java/lang/Object"), .int, (.object "java/lang/Object"), .int, .int], returnType := none }, accessFlags := 265, code := none }
/-- java/lang/System -/
def k5 : Class := { plain "java/lang/System" (some 0) with
  accessFlags := 49
  interfaces := #[]
  cf := some (fileOf pool5 8 #[.nestMembers #[319, 327, 801, 108, 663, 208]] #[{ accessFlags := 2, nameIndex := 5, descriptorIndex := 6, attributes := #[] }, { accessFlags := 265, nameIndex := 727, descriptorIndex := 728, attributes := #[] }] 49 2 #[] #[{ accessFlags := 25, nameIndex := 507, descriptorIndex := 526, attributes := #[] }, { accessFlags := 25, nameIndex := 399, descriptorIndex := 155, attributes := #[] }, { accessFlags := 25, nameIndex := 396, descriptorIndex := 155, attributes := #[] }, { accessFlags := 10, nameIndex := 525, descriptorIndex := 526, attributes := #[] }, { accessFlags := 26, nameIndex := 674, descriptorIndex := 12, attributes := #[] }, { accessFlags := 26, nameIndex := 677, descriptorIndex := 12, attributes := #[] }, { accessFlags := 10, nameIndex := 11, descriptorIndex := 12, attributes := #[] }, { accessFlags := 74, nameIndex := 175, descriptorIndex := 176, attributes := #[] }, { accessFlags := 10, nameIndex := 491, descriptorIndex := 222, attributes := #[] }, { accessFlags := 74, nameIndex := 29, descriptorIndex := 30, attributes := #[] }, { accessFlags := 74, nameIndex := 154, descriptorIndex := 155, attributes := #[] }, { accessFlags := 10, nameIndex := 217, descriptorIndex := 218, attributes := #[] }, { accessFlags := 10, nameIndex := 221, descriptorIndex := 222, attributes := #[] }, { accessFlags := 8, nameIndex := 562, descriptorIndex := 563, attributes := #[] }])
  fields := #[{ name := "in", type := (.object "java/io/InputStream"), accessFlags := 25, slot := 0, constantValue := 0 }, { name := "out", type := (.object "java/io/PrintStream"), accessFlags := 25, slot := 1, constantValue := 0 }, { name := "err", type := (.object "java/io/PrintStream"), accessFlags := 25, slot := 2, constantValue := 0 }, { name := "initialIn", type := (.object "java/io/InputStream"), accessFlags := 10, slot := 3, constantValue := 0 }, { name := "NEVER", type := .int, accessFlags := 26, slot := 4, constantValue := 0 }, { name := "MAYBE", type := .int, accessFlags := 26, slot := 5, constantValue := 0 }, { name := "allowSecurityManager", type := .int, accessFlags := 10, slot := 6, constantValue := 0 }, { name := "security", type := (.object "java/lang/SecurityManager"), accessFlags := 74, slot := 7, constantValue := 0 }, { name := "notSupportedJnuEncoding", type := (.object "java/lang/String"), accessFlags := 10, slot := 8, constantValue := 0 }, { name := "cons", type := (.object "java/io/Console"), accessFlags := 74, slot := 9, constantValue := 0 }, { name := "initialErrStream", type := (.object "java/io/PrintStream"), accessFlags := 74, slot := 10, constantValue := 0 }, { name := "props", type := (.object "java/util/Properties"), accessFlags := 10, slot := 11, constantValue := 0 }, { name := "lineSeparator", type := (.object "java/lang/String"), accessFlags := 10, slot := 12, constantValue := 0 }, { name := "bootLayer", type := (.object "java/lang/ModuleLayer"), accessFlags := 8, slot := 13, constantValue := 0 }]
  methods := #[k5m0, k5m1]
  instanceTypes := #[]
  staticTypes := #[(.object "java/io/InputStream"), (.object "java/io/PrintStream"), (.object "java/io/PrintStream"), (.object "java/io/InputStream"), .int, .int, .int, (.object "java/lang/SecurityManager"), (.object "java/lang/String"), (.object "java/io/Console"), (.object "java/io/PrintStream"), (.object "java/util/Properties"), (.object "java/lang/String"), (.object "java/lang/ModuleLayer")]
  resolved := Array.replicate 834 none
  statics := none }

def pool6 : Array CpInfo := pool [(1, u "java/lang/Cloneable"), (0, .class_ 1), (0, u "java/lang/Object"), (0, .class_ 3)] 3

/-- java/lang/Cloneable -/
def k6 : Class := { plain "java/lang/Cloneable" (some 0) with
  accessFlags := 1537
  interfaces := #[]
  cf := some (fileOf pool6 2 #[] #[] 1537 4 #[] #[])
  fields := #[]
  methods := #[]
  instanceTypes := #[]
  staticTypes := #[]
  resolved := Array.replicate 8 none
  statics := none }

def pool7 : Array CpInfo := pool [(1, u "java/io/Serializable"), (0, .class_ 1), (0, u "java/lang/Object"), (0, .class_ 3)] 3

/-- java/io/Serializable -/
def k7 : Class := { plain "java/io/Serializable" (some 0) with
  accessFlags := 1537
  interfaces := #[]
  cf := some (fileOf pool7 2 #[] #[] 1537 4 #[] #[])
  fields := #[]
  methods := #[]
  instanceTypes := #[]
  staticTypes := #[]
  resolved := Array.replicate 8 none
  statics := none }

/-- the primitive byte -/
def k8 : Class := { plain "byte" none with kind := .primitive 'B', accessFlags := 0x411 }
/-- [B -/
def k9 : Class := { plain "[B" (some 0) with kind := .array 8 .byte, interfaces := #[6, 7], accessFlags := 1041 }

/-- the primitive int -/
def k10 : Class := { plain "int" none with kind := .primitive 'I', accessFlags := 0x411 }
/-- [I -/
def k11 : Class := { plain "[I" (some 0) with kind := .array 10 .int, interfaces := #[6, 7], accessFlags := 1041 }

def heap : Heap := #[]
def classes : Array Class := #[k0, k1, k2, k3, k4, k5, k6, k7, k8, k9, k10, k11]
def interned : List (Array UInt16 × Addr) := []
def slotsUsed : Nat := 0
def theMethod : MethodId := ⟨1, 1⟩
def args0 : Array Value := #[.int 13, .int 7, .int 9, .int 11, .int 3, .int 8]
def aboutOver (below : List Frame) : State where
  vm := { classes := classes, interned := interned.toArray }
  heap := heap
  slotsUsed := slotsUsed
  threads := #[{ frames := .invoking theMethod args0 :: below }]
def below0 : List Frame := [.native { method := ⟨0, 0⟩, args := #[] }]
def about1 : State := aboutOver below0
def p0 : Program := .bare "" "" ""
def e0 : Env := launch0.env 0 0 0
theorem w_frames : about1.frames = Frame.invoking theMethod args0 :: below0 := rfl
set_option maxRecDepth 65536 in
theorem w_args : argsFit about1.vm theMethod args0 = true := by decide +kernel
set_option maxRecDepth 65536 in
theorem w_heap : heapFits about1 = true := by decide +kernel
set_option maxRecDepth 65536 in
theorem w_runnable : about1.curStatus? = some .runnable := by decide +kernel
set_option maxRecDepth 65536 in
theorem w_alone : about1.alone = true := by decide +kernel
set_option maxRecDepth 65536 in
theorem w_named : about1.methodNamed? x = some theMethod := by decide +kernel
set_option maxRecDepth 65536 in
theorem w_hears : about1.hears theMethod below0 = true := by decide +kernel
set_option maxRecDepth 65536 in
theorem w_ripe : about1.ripe theMethod args0 below0 = true := by decide +kernel
theorem w_running : about1.status = .running := rfl
set_option maxRecDepth 65536 in
theorem w_room : about1.hasRoom e0.platform room_1 = true :=
  launch0.hasRoom_least _ room_1 (by decide +kernel) (by decide +kernel) (by decide +kernel) (by decide +kernel) (by decide +kernel) (by decide +kernel)
theorem allAtoms_all (ts : List Jvm.Cond) (a : Array Jvm.Value) (st : Jvm.State) : (allAtoms ts).before a st = ts.all (fun c => c.before a st) := by
  induction ts with
  | nil => rfl
  | cons c t ih =>
    show (Jvm.Cond.and c (allAtoms t)).before a st = _
    rw [Jvm.Cond.before_and, ih, List.all_cons]
def words1 : List Jvm.Cond := Jvm.Cond.code x code maxLocals ret :: tables_1
/-- a 'code' word, met by the world's own term for the bytes: nothing is compared byte by byte -/
theorem code_word {y : MethodName} {bytes : ByteArray} {mx : Nat} {rt : Option FieldType} {a : Array Value} {s : State} {m : MethodId} {meth : Method} {c : Code} (h1 : s.methodNamed? y = some m) (h2 : s.vm.method? m = some meth) (h3 : meth.code = some c) (h4 : c.code = bytes)
    (h5 : (c.maxLocals == mx && c.exceptionTable.isEmpty && decide (c.maxStack ≤ mostOperands) && decide (meth.sig.returnType = rt) && !meth.locks && decide (parseMethodDescriptor y.desc = some meth.sig)) = true) : (Jvm.Cond.code y bytes mx rt).before a s = true := by
  simp only [Bool.and_eq_true, beq_iff_eq, Bool.not_eq_true', decide_eq_true_eq] at h5
  obtain ⟨⟨⟨⟨⟨g1, g2⟩, g3⟩, g4⟩, g5⟩, g6⟩ := h5
  simp [Cond.before, Cond.holds, Cond.value, h1, h2, h3, h4, g1, g2, g3, g4, g5, g6]
def isCode : Jvm.Cond → Bool
  | .code _ _ _ _ => true
  | _ => false
theorem all_split {L : List Jvm.Cond} {P : Jvm.Cond → Bool} (h1 : L.all (fun c => isCode c || P c) = true) (h2 : ∀ c ∈ L.filter isCode, P c = true) : L.all P = true := by
  refine List.all_eq_true.mpr fun c hc => ?_
  have h := List.all_eq_true.mp h1 c hc
  rcases Bool.eq_false_or_eq_true (isCode c) with hi | hi
  · exact h2 c (List.mem_filter.mpr ⟨hc, hi⟩)
  · simpa [hi] using h
set_option maxRecDepth 65536 in
theorem w_c0 : (Jvm.Cond.code x code maxLocals ret).before args0 about1 = true := code_word (m := ⟨1, 1⟩) (meth := k1m1) (c := k1c1) (by decide +kernel) rfl rfl rfl (by decide +kernel)
set_option maxRecDepth 65536 in
theorem w_c1 : (Jvm.Cond.code ({ cls := "com/example/inverse_frequency/inversefrequency/Postings", name := "<init>", desc := "(I)V" } : Jvm.MethodName) prog_33_method_2_code (2 : Nat) (Option.none : Option Jvm.ClassFile.FieldType)).before args0 about1 = true := code_word (m := ⟨2, 1⟩) (meth := k2m1) (c := k2c1) (by decide +kernel) rfl rfl rfl (by decide +kernel)
set_option maxRecDepth 65536 in
theorem w_c2 : (Jvm.Cond.code ({ cls := "java/lang/Object", name := "<init>", desc := "()V" } : Jvm.MethodName) object_method_1_code (1 : Nat) (Option.none : Option Jvm.ClassFile.FieldType)).before args0 about1 = true := code_word (m := ⟨0, 0⟩) (meth := k0m0) (c := k0c0) (by decide +kernel) rfl rfl rfl (by decide +kernel)
set_option maxRecDepth 65536 in
theorem w_c3 : (Jvm.Cond.code ({ cls := "java/lang/Math", name := "max", desc := "(II)I" } : Jvm.MethodName) jdk_29_method_65_code (2 : Nat) (Option.some Jvm.ClassFile.FieldType.int)).before args0 about1 = true := code_word (m := ⟨3, 1⟩) (meth := k3m1) (c := k3c1) (by decide +kernel) rfl rfl rfl (by decide +kernel)
set_option maxRecDepth 65536 in
theorem w_c4 : (Jvm.Cond.code ({ cls := "com/example/inverse_frequency/inversefrequency/Postings", name := "frequencyIn", desc := "(I)I" } : Jvm.MethodName) prog_33_method_8_code (3 : Nat) (Option.some Jvm.ClassFile.FieldType.int)).before args0 about1 = true := code_word (m := ⟨2, 3⟩) (meth := k2m3) (c := k2c3) (by decide +kernel) rfl rfl rfl (by decide +kernel)
set_option maxRecDepth 65536 in
theorem w_c5 : (Jvm.Cond.code ({ cls := "java/util/Arrays", name := "binarySearch", desc := "([IIII)I" } : Jvm.MethodName) jdk_65_method_58_code (4 : Nat) (Option.some Jvm.ClassFile.FieldType.int)).before args0 about1 = true := code_word (m := ⟨4, 2⟩) (meth := k4m2) (c := k4c2) (by decide +kernel) rfl rfl rfl (by decide +kernel)
set_option maxRecDepth 65536 in
theorem w_c6 : (Jvm.Cond.code ({ cls := "java/util/Arrays", name := "rangeCheck", desc := "(III)V" } : Jvm.MethodName) jdk_65_method_30_code (3 : Nat) (Option.none : Option Jvm.ClassFile.FieldType)).before args0 about1 = true := code_word (m := ⟨4, 1⟩) (meth := k4m1) (c := k4c1) (by decide +kernel) rfl rfl rfl (by decide +kernel)
set_option maxRecDepth 65536 in
theorem w_c7 : (Jvm.Cond.code ({ cls := "java/util/Arrays", name := "binarySearch0", desc := "([IIII)I" } : Jvm.MethodName) jdk_65_method_59_code (8 : Nat) (Option.some Jvm.ClassFile.FieldType.int)).before args0 about1 = true := code_word (m := ⟨4, 3⟩) (meth := k4m3) (c := k4c3) (by decide +kernel) rfl rfl rfl (by decide +kernel)
set_option maxRecDepth 65536 in
theorem w_c8 : (Jvm.Cond.code ({ cls := "com/example/inverse_frequency/inversefrequency/Postings", name := "add", desc := "(II)V" } : Jvm.MethodName) prog_33_method_3_code (3 : Nat) (Option.none : Option Jvm.ClassFile.FieldType)).before args0 about1 = true := code_word (m := ⟨2, 2⟩) (meth := k2m2) (c := k2c2) (by decide +kernel) rfl rfl rfl (by decide +kernel)
set_option maxRecDepth 65536 in
theorem w_c9 : (Jvm.Cond.code ({ cls := "java/util/Arrays", name := "copyOf", desc := "([II)[I" } : Jvm.MethodName) jdk_65_method_123_code (3 : Nat) (Option.some (Jvm.ClassFile.FieldType.array Jvm.ClassFile.FieldType.int))).before args0 about1 = true := code_word (m := ⟨4, 4⟩) (meth := k4m4) (c := k4c4) (by decide +kernel) rfl rfl rfl (by decide +kernel)
set_option maxRecDepth 65536 in
theorem w_c10 : (Jvm.Cond.code ({ cls := "java/lang/Math", name := "min", desc := "(II)I" } : Jvm.MethodName) jdk_29_method_69_code (2 : Nat) (Option.some Jvm.ClassFile.FieldType.int)).before args0 about1 = true := code_word (m := ⟨3, 2⟩) (meth := k3m2) (c := k3c2) (by decide +kernel) rfl rfl rfl (by decide +kernel)
def codes1 : List Jvm.Cond := [Jvm.Cond.code x code maxLocals ret, Jvm.Cond.code ({ cls := "com/example/inverse_frequency/inversefrequency/Postings", name := "<init>", desc := "(I)V" } : Jvm.MethodName) prog_33_method_2_code (2 : Nat) (Option.none : Option Jvm.ClassFile.FieldType), Jvm.Cond.code ({ cls := "java/lang/Object", name := "<init>", desc := "()V" } : Jvm.MethodName) object_method_1_code (1 : Nat) (Option.none : Option Jvm.ClassFile.FieldType), Jvm.Cond.code ({ cls := "java/lang/Math", name := "max", desc := "(II)I" } : Jvm.MethodName) jdk_29_method_65_code (2 : Nat) (Option.some Jvm.ClassFile.FieldType.int), Jvm.Cond.code ({ cls := "com/example/inverse_frequency/inversefrequency/Postings", name := "frequencyIn", desc := "(I)I" } : Jvm.MethodName) prog_33_method_8_code (3 : Nat) (Option.some Jvm.ClassFile.FieldType.int), Jvm.Cond.code ({ cls := "java/util/Arrays", name := "binarySearch", desc := "([IIII)I" } : Jvm.MethodName) jdk_65_method_58_code (4 : Nat) (Option.some Jvm.ClassFile.FieldType.int), Jvm.Cond.code ({ cls := "java/util/Arrays", name := "rangeCheck", desc := "(III)V" } : Jvm.MethodName) jdk_65_method_30_code (3 : Nat) (Option.none : Option Jvm.ClassFile.FieldType), Jvm.Cond.code ({ cls := "java/util/Arrays", name := "binarySearch0", desc := "([IIII)I" } : Jvm.MethodName) jdk_65_method_59_code (8 : Nat) (Option.some Jvm.ClassFile.FieldType.int), Jvm.Cond.code ({ cls := "com/example/inverse_frequency/inversefrequency/Postings", name := "add", desc := "(II)V" } : Jvm.MethodName) prog_33_method_3_code (3 : Nat) (Option.none : Option Jvm.ClassFile.FieldType), Jvm.Cond.code ({ cls := "java/util/Arrays", name := "copyOf", desc := "([II)[I" } : Jvm.MethodName) jdk_65_method_123_code (3 : Nat) (Option.some (Jvm.ClassFile.FieldType.array Jvm.ClassFile.FieldType.int)), Jvm.Cond.code ({ cls := "java/lang/Math", name := "min", desc := "(II)I" } : Jvm.MethodName) jdk_29_method_69_code (2 : Nat) (Option.some Jvm.ClassFile.FieldType.int)]
set_option maxRecDepth 65536 in
theorem codes_eq : words1.filter isCode = codes1 := rfl
theorem w_codes : ∀ c ∈ words1.filter isCode, c.before args0 about1 = true := by
  rw [codes_eq]
  intro c hc
  simp only [codes1, List.mem_cons, List.not_mem_nil, or_false] at hc
  rcases hc with rfl | rfl | rfl | rfl | rfl | rfl | rfl | rfl | rfl | rfl | rfl
  · exact w_c0
  · exact w_c1
  · exact w_c2
  · exact w_c3
  · exact w_c4
  · exact w_c5
  · exact w_c6
  · exact w_c7
  · exact w_c8
  · exact w_c9
  · exact w_c10
set_option maxRecDepth 65536 in
theorem w_t1 : (words1.take 24).all (fun c => isCode c || c.before args0 about1) = true := by decide +kernel
set_option maxRecDepth 65536 in
theorem w_t2 : ((words1.drop 24).take 24).all (fun c => isCode c || c.before args0 about1) = true := by decide +kernel
set_option maxRecDepth 65536 in
theorem w_t3 : ((words1.drop 24).drop 24).all (fun c => isCode c || c.before args0 about1) = true := by decide +kernel
theorem w_tables : (allAtoms (Jvm.Cond.code x code maxLocals ret :: tables_1)).before args0 about1 = true := by
  rw [allAtoms_all]
  show words1.all (fun c => c.before args0 about1) = true
  refine all_split ?_ w_codes
  rw [← List.take_append_drop 24 words1, List.all_append, w_t1, ← List.take_append_drop 24 (words1.drop 24), List.all_append, w_t2, w_t3]
  rfl
set_option maxRecDepth 65536 in
theorem w_case : (Jvm.Cond.and given_1 narrow_1).before args0 about1 = true := by decide +kernel
theorem w_applies : (headSpec (Jvm.Cond.code x code maxLocals ret :: tables_1) room_1).applies x e0.platform about1 = true :=
  (Spec.applies_iff w_frames).mpr ⟨w_running, w_runnable, w_alone, w_named, w_hears, w_ripe, w_room, w_tables⟩
theorem atStart : AtStart classFile x code maxLocals ret World_1 tables_1 room_1 Calls_1 rest_1 Pre_1 launch0 p0 e0 about1 theMethod args0 below0 :=
  ⟨lists_1, trivial, launch0.admits_env _ _ _, launch0.least_env, fairChoices_fair.cas, fairChoices_fair.clock, w_frames, w_args, w_heap, w_applies, trivial, trivial, w_case⟩
end start1
theorem witness_1 : WitnessClaimed_1 := ⟨start1.p0, start1.e0, start1.about1, start1.theMethod, start1.args0, start1.below0, start1.atStart⟩
end Jvm.Pilot.@@N@@
